import JvmDerived
import JvmDerived.Pilot.@@N@@Statement
import JvmDerived.Pilot.@@N@@Code
set_option linter.unusedVariables false
set_option linter.unusedSimpArgs false
namespace Jvm.RoadKit
open Sem ClassFile Op Lib Jvm.Stand Jvm.Free Jvm.LawKit
section New
variable {p : Program} {l : Launch} {e : Env} {R : Room} {s : State} {m : MethodId} {args : Array Value} {below : List Frame} {meth : Method} {c : Code} {T : State} {locs : List Loc} {cells slots : Nat}
theorem own_retI (X : Stand p l e R s m args below meth c T locs cells slots) (hx : p.tables.exec = Jvm.exec) {pc : Nat} {Ls : Array Slot} {z : Int32} {rest : List Value} (hret : meth.sig.returnType = some .int) (hd : decode c.code pc = .ok (.ireturn, 1)) {fs : List Frame}
    (hl : ∀ (f : JFrame) (acts : List Action), f.method = m → f.locked = none → f.entered = [] → (doReturn e (T.setTop f) acts (some (.int z))).1 = T.setFrames fs) : Steps p.tables e below (T.setTop (mkF m pc Ls (.int z :: rest))) (T.setFrames fs) :=
  retOut X hx hret rfl (Or.inl ⟨rfl, Or.inl rfl, z, rfl⟩) hd hl
theorem own_retL (X : Stand p l e R s m args below meth c T locs cells slots) (hx : p.tables.exec = Jvm.exec) {pc : Nat} {Ls : Array Slot} {z : Int64} {rest : List Value} (hret : meth.sig.returnType = some .long) (hd : decode c.code pc = .ok (.lreturn, 1)) {fs : List Frame}
    (hl : ∀ (f : JFrame) (acts : List Action), f.method = m → f.locked = none → f.entered = [] → (doReturn e (T.setTop f) acts (some (.long z))).1 = T.setFrames fs) : Steps p.tables e below (T.setTop (mkF m pc Ls (.long z :: rest))) (T.setFrames fs) :=
  retOut X hx hret rfl (Or.inr (Or.inl ⟨rfl, rfl, z, rfl⟩)) hd hl
theorem own_retA (X : Stand p l e R s m args below meth c T locs cells slots) (hx : p.tables.exec = Jvm.exec) {pc : Nat} {Ls : Array Slot} {w : Value} {t : FieldType} {rest : List Value} (hret : meth.sig.returnType = some t) (ht : t.isReference = true) (hw : w.isRef = true) (hn : narrow t w = w) (hd : decode c.code pc = .ok (.areturn, 1)) {fs : List Frame}
    (hl : ∀ (f : JFrame) (acts : List Action), f.method = m → f.locked = none → f.entered = [] → (doReturn e (T.setTop f) acts (some w)).1 = T.setFrames fs) : Steps p.tables e below (T.setTop (mkF m pc Ls (w :: rest))) (T.setFrames fs) :=
  retOut X hx hret hn (Or.inr (Or.inr (Or.inr (Or.inr ⟨rfl, ht, hw⟩)))) hd hl
theorem own_lremM {g : JFrame} {target : State} (X : Stand p l e R s m args below meth c T locs cells slots) (hx : p.tables.exec = Jvm.exec) (hg : g.method = m) {x y : Int64} {rest : List Value} (hd : decode c.code g.pc = .ok (.lrem, 1)) (hs : g.stack = .long y :: .long x :: rest) (hy : y ≠ 0)
    (hr : Steps p.tables e below (T.setTop { g with pc := g.pc + 1, stack := .long (x % y) :: rest }) target) : Steps p.tables e below (T.setTop g) target := by
  have q : x - x / y * y = x % y := lrem_mod x y
  exact XS.lrem X.here hx hg hd hs hy (by rw [q]; exact hr)
theorem own_selp {Z s : State} {a0 args : Array Value} {y : MethodName} {n : Nat} (hZ : Z.Warmed39 s.vm) (wi : (Cond.instantiable y.cls n).before a0 Z = true) (wp : (Cond.privateMethod y).before a0 Z = true) (wm : (Cond.instanceMethod y).before a0 Z = true)
    (hy : y.cls ≠ "java/lang/invoke/MethodHandle" ∧ y.cls ≠ "java/lang/invoke/VarHandle") : (Cond.selects y.cls y y).before args s = true := by
  obtain ⟨c, k, h1, h2, h3, h4, -⟩ := Cond.instantiable_spec (mvT (args := args) hZ wi)
  exact selects_self_of_private h1 h2 (by simp only [Bool.or_eq_false_iff] at h4; exact h4.1) (Cond.privateMethod_at (mvP hZ wp (args := #[]))) (mvT hZ wm) hy
end New
end Jvm.RoadKit
namespace Jvm.Pilot.@@N@@
open Jvm Jvm.ClassFile Sem Op Lib Jvm.Free Jvm.Stand Jvm.LawKit Jvm.RoadKit Bundle Jvm.Pilot.@@N@@.Jvm.D
def own_neg (v : Int32) : Int32 := if v = (-1 : Int32) then (-2 : Int32) else v
def own_draw (a i : Int32) : Int32 := if a < (0 : Int32) then own_neg a else a % i
theorem own_neg_lt (v : Int32) (h : v < 0) : own_neg v < 0 := by
  unfold own_neg; by_cases q : v = -1
  · rw [if_pos q]; decide
  · rw [if_neg q]; exact h
theorem own_or_lt (v : Int32) : v ||| (-2147483648 : Int32) < 0 := by
  have h := (c_orS v (-2147483648)).2.2 (by decide)
  rw [Int32.lt_iff_toInt_lt]; exact h
theorem own_draw_lt (a i : Int32) (d : Int) (hd : 0 < d) (hi : i.toInt = d) : own_draw a i < i := by
  unfold own_draw; by_cases q : a < 0
  · rw [if_pos q]
    have h := own_neg_lt a q
    rw [Int32.lt_iff_toInt_lt] at h ⊢
    have z0 : (0 : Int32).toInt = 0 := rfl
    omega
  · rw [if_neg q]
    rw [Int32.lt_iff_toInt_lt] at q ⊢
    have z0 : (0 : Int32).toInt = 0 := rfl
    have r := (c_irem a i d hi).1 (by omega)
    have := Int.emod_lt_of_pos a.toInt hd
    omega
theorem own_lt1 {q : Int32} (h1 : ¬ q < 0) (h2 : q < 1) : q = 0 := by
  rw [Int32.lt_iff_toInt_lt] at h1 h2; have z0 : (0 : Int32).toInt = 0 := rfl; have z1 : (1 : Int32).toInt = 1 := rfl
  exact Int32.toInt_inj.mp (by omega)
theorem own_lt2 {q : Int32} (h1 : ¬ q < 0) (h2 : q < 2) : q = 0 ∨ q = 1 := by
  rw [Int32.lt_iff_toInt_lt] at h1 h2; have z0 : (0 : Int32).toInt = 0 := rfl; have z1 : (1 : Int32).toInt = 1 := rfl; have z2 : (2 : Int32).toInt = 2 := rfl
  rcases (show q.toInt = 0 ∨ q.toInt = 1 by omega) with h | h
  · exact Or.inl (Int32.toInt_inj.mp h)
  · exact Or.inr (Int32.toInt_inj.mp h)
theorem own_lt3 {q : Int32} (h1 : ¬ q < 0) (h2 : q < 3) : q = 0 ∨ q = 1 ∨ q = 2 := by
  rw [Int32.lt_iff_toInt_lt] at h1 h2; have z0 : (0 : Int32).toInt = 0 := rfl; have z3 : (3 : Int32).toInt = 3 := rfl
  rcases (show q.toInt = 0 ∨ q.toInt = 1 ∨ q.toInt = 2 by omega) with h | h | h
  · exact Or.inl (Int32.toInt_inj.mp h)
  · exact Or.inr (Or.inl (Int32.toInt_inj.mp h))
  · exact Or.inr (Or.inr (Int32.toInt_inj.mp h))
theorem own_lt4 {q : Int32} (h1 : ¬ q < 0) (h2 : q < 4) : q = 0 ∨ q = 1 ∨ q = 2 ∨ q = 3 := by
  rw [Int32.lt_iff_toInt_lt] at h1 h2; have z0 : (0 : Int32).toInt = 0 := rfl; have z4 : (4 : Int32).toInt = 4 := rfl
  rcases (show q.toInt = 0 ∨ q.toInt = 1 ∨ q.toInt = 2 ∨ q.toInt = 3 by omega) with h | h | h | h
  · exact Or.inl (Int32.toInt_inj.mp h)
  · exact Or.inr (Or.inl (Int32.toInt_inj.mp h))
  · exact Or.inr (Or.inr (Or.inl (Int32.toInt_inj.mp h)))
  · exact Or.inr (Or.inr (Or.inr (Int32.toInt_inj.mp h)))
theorem own_rng (x : Int32) : (x &&& 2147483647) % 5 = 0 ∨ (x &&& 2147483647) % 5 = 1 ∨ (x &&& 2147483647) % 5 = 2 ∨ (x &&& 2147483647) % 5 = 3 ∨ (x &&& 2147483647) % 5 = 4 := by
  have m := c_mask x 2147483647 31 (by decide) (by decide)
  have r := (c_irem (x &&& 2147483647) 5 5 rfl).1 (by rw [m]; omega)
  have e : ∀ (k : Int32) (n : Int32), k.toInt = n.toInt → k = n := fun k n h => Int32.toInt_inj.mp h
  have q : ((x &&& 2147483647) % 5).toInt = 0 ∨ ((x &&& 2147483647) % 5).toInt = 1 ∨ ((x &&& 2147483647) % 5).toInt = 2 ∨ ((x &&& 2147483647) % 5).toInt = 3 ∨ ((x &&& 2147483647) % 5).toInt = 4 := by omega
  rcases q with q | q | q | q | q
  · exact Or.inl (e _ 0 q)
  · exact Or.inr (Or.inl (e _ 1 q))
  · exact Or.inr (Or.inr (Or.inl (e _ 2 q)))
  · exact Or.inr (Or.inr (Or.inr (Or.inl (e _ 3 q))))
  · exact Or.inr (Or.inr (Or.inr (Or.inr (e _ 4 q))))
def own_hl (z : Int32) (vs ws : List Value) (j : Int32) : Prop := ¬ j < z ∨ ∃ v w u : Int32, ¬ j < 0 ∧ vs.getD j.toNatClampNeg (.int (0 : Int32)) = .int v ∧ (¬ v < 0 ∧ v < 5) ∧ ws.getD v.toNatClampNeg (.int (0 : Int32)) = .int w ∧ ((j = 0 ∧ w < 0) ∨ (¬ j = 0 ∧ (¬ (j - (1 : Int32)) < 0 ∧ (j - (1 : Int32)) < z) ∧ vs.getD (j - (1 : Int32)).toNatClampNeg (.int (0 : Int32)) = .int u ∧ w = u))
def Q1 (p1 : Int32) (h0 : Heap) (n0 : Nat) (v : Option Value) (h : Heap) (L : List Loc) : Prop := v = some (.int (own_neg p1)) ∧ Fr n0 L ∧ h = h0
theorem d1_0 : decode method_2_code 0 = .ok (.iload_n 0, 1) := by decide +kernel
theorem d1_1 : decode method_2_code 1 = .ok (.iconst (-1), 1) := by decide +kernel
theorem d1_2 : decode method_2_code 2 = .ok (.if_icmp .ne 8, 3) := by decide +kernel
theorem d1_5 : decode method_2_code 5 = .ok (.bipush (-2), 2) := by decide +kernel
theorem d1_7 : decode method_2_code 7 = .ok (.goto 4, 3) := by decide +kernel
theorem d1_10 : decode method_2_code 10 = .ok (.iload_n 0, 1) := by decide +kernel
theorem d1_11 : decode method_2_code 11 = .ok (.ireturn, 1) := by decide +kernel
theorem pn_com_example_holdover_holdover_analysis_BreadthFirstPathPinLaw : plainName "com/example/holdover/holdover/analysis/BreadthFirstPathPinLaw" = true := by first | (simp [plainName, overriddenIn]; done) | decide +kernel
theorem ef_rm1 (m : MethodId) (x0 : Int32) : entryFrame m #[(.int x0)] 1 = mkF m 0 #[.val (.int x0)] [] := by first | (simp [entryFrame, mkF, argsToLocals, Value.category]; done) | rfl
set_option maxRecDepth 65536 in
set_option maxHeartbeats 40000000 in
theorem rm1 (l : Launch) (Z : State) (a0 : Array Value) (hw : ∀ d ∈ tables_1, d.before a0 Z = true) (ws : List Jvm.Cond) (p1 : Int32) (h0 : Heap) (n0 : Nat) (Z0 : n0 ≤ h0.size) :
    MetFree l (⟨"com/example/holdover/holdover/analysis/BreadthFirstPathPinLaw", "neg", "(I)I"⟩ : MethodName) (head1 (Jvm.Cond.code (⟨"com/example/holdover/holdover/analysis/BreadthFirstPathPinLaw", "neg", "(I)I"⟩ : MethodName) method_2_code 1 (some .int) :: ws) ({ frames := 0, cells := 0, slots := 0, locals := 0 } : Room)) (fun a U => a = #[(.int p1)] ∧ Z.Warmed39 U.vm ∧ U.heap = h0) (fun _ _ _ _ _ => True) (fun _ U o U' => ∃ v L, o = .returned v ∧ Q1 p1 h0 n0 v U'.heap L ∧ FrameEnd U o U' L ({ frames := 0, cells := 0, slots := 0, locals := 0 } : Room).cells ({ frames := 0, cells := 0, slots := 0, locals := 0 } : Room).slots) := by
  refine MetFree.of_bodySF (plainFor_of_name pn_com_example_holdover_holdover_analysis_BreadthFirstPathPinLaw) hisR ?_
  intro p e s m args below meth c s₁ Bd hml0 hP hK
  obtain ⟨rfl, hZ, hh⟩ := hP
  have hx := Bd.exec
  have hby := Bd.bytes
  have hml : c.maxLocals = 1 := hml0
  have hown : s.vm.findClass "com/example/holdover/holdover/analysis/BreadthFirstPathPinLaw" = some m.cls := findClass_of_methodNamed Bd.named
  have hnm := (name_of_methodNamed Bd.named Bd.method).1
  have X0 : Stand p l e ({ frames := 0, cells := 0, slots := 0, locals := 0 } : Room) s m #[(.int p1)] below meth c s₁ [] 0 0 := Stand.of_body Bd
  have e0 : s₁.heap = h0 := by rw [← hh, Bd.state]; rfl
  have N0 := Fr.nil n0
  have KP0 : Keep h0 h0 [] := Keep.refl h0 _
  obtain ⟨G, hG⟩ : ∃ G : State, G = s₁.setTop (entryFrame m #[(.int p1)] 1) := ⟨_, rfl⟩
  have pre0 : ∀ t, Steps p.tables e below (s₁.setTop (mkF m 0 #[.val (.int p1)] [])) t → Steps p.tables e below G t := fun t k => hG ▸ castTop (ef_rm1 m p1) k
  have K1 : ∀ t, Steps p.tables e below (s₁.setTop (mkF m 2 #[.val (.int p1)] [(.int (-1 : Int32)), (.int p1)])) t → Steps p.tables e below G t := by
    intro t k
    refine pre0 t ?_
    show Steps p.tables e below (s₁.setTop (mkF m 0 #[.val (.int p1)] [])) _
    refine XS.iloadN X0.here hx rfl (hb hby d1_0) rfl ?_
    refine XS.iconst X0.here hx rfl (hb hby d1_1) ?_
    show Steps p.tables e below (s₁.setTop (mkF m 2 #[.val (.int p1)] [(.int (-1 : Int32)), (.int p1)])) _
    exact k
  by_cases hc2 : p1 = (-1 : Int32)
  · obtain ⟨fs, hr, hrun, hended, hW, hsame⟩ := X0.leave (v := some (.int (-2 : Int32))) (fun h => by rw [Bd.returns] at h; cases h)
    have KF := K1
    rw [hG] at KF
    refine ⟨_, _, KF _ ?_, hrun, hended, _, _, rfl, ?_, ⟨_, rfl⟩, hW, hsame.mono (by decide) (by decide)⟩
    · show Steps p.tables e below (s₁.setTop (mkF m 2 #[.val (.int p1)] [(.int (-1 : Int32)), (.int p1)])) _
      refine XS.icmpNo X0.here hx rfl (hb hby d1_2) rfl (teq hc2).2 ?_
      refine XS.bipush X0.here hx rfl (hb hby d1_5) ?_
      refine XS.goto X0.here hx rfl (pc0 := 7) (pc' := 11) rfl (hb hby d1_7) (by decide) (by decide) ?_
      show Steps p.tables e below (s₁.setTop (mkF m 11 #[.val (.int p1)] [(.int (-2 : Int32))])) _
      exact own_retI X0 hx Bd.returns (hb hby d1_11) hr
    · show Q1 p1 h0 n0 _ s₁.heap _
      rw [e0]
      exact ⟨by simp only [own_neg, if_pos hc2], N0, rfl⟩
  · obtain ⟨fs, hr, hrun, hended, hW, hsame⟩ := X0.leave (v := some (.int p1)) (fun h => by rw [Bd.returns] at h; cases h)
    have KF := K1
    rw [hG] at KF
    refine ⟨_, _, KF _ ?_, hrun, hended, _, _, rfl, ?_, ⟨_, rfl⟩, hW, hsame.mono (by decide) (by decide)⟩
    · show Steps p.tables e below (s₁.setTop (mkF m 2 #[.val (.int p1)] [(.int (-1 : Int32)), (.int p1)])) _
      refine XS.icmpYes X0.here hx rfl (pc0 := 2) (pc' := 10) rfl (hb hby d1_2) rfl (feq hc2).2 (by decide) (by decide) ?_
      refine XS.iloadN X0.here hx rfl (hb hby d1_10) rfl ?_
      show Steps p.tables e below (s₁.setTop (mkF m 11 #[.val (.int p1)] [(.int p1)])) _
      exact own_retI X0 hx Bd.returns (hb hby d1_11) hr
    · show Q1 p1 h0 n0 _ s₁.heap _
      rw [e0]
      exact ⟨by simp only [own_neg, if_neg hc2], N0, rfl⟩
def Q2 (p1 p2 : Int32) (h0 : Heap) (n0 : Nat) (v : Option Value) (h : Heap) (L : List Loc) : Prop := v = some (.int (own_draw p1 p2)) ∧ Fr n0 L ∧ h = h0
theorem d2_0 : decode method_3_code 0 = .ok (.iload_n 0, 1) := by decide +kernel
theorem d2_1 : decode method_3_code 1 = .ok (.ifCond .ge 8, 3) := by decide +kernel
theorem d2_4 : decode method_3_code 4 = .ok (.iload_n 0, 1) := by decide +kernel
theorem d2_5 : decode method_3_code 5 = .ok (.invokestatic 7, 3) := by decide +kernel
theorem d2_8 : decode method_3_code 8 = .ok (.ireturn, 1) := by decide +kernel
theorem d2_9 : decode method_3_code 9 = .ok (.iload_n 0, 1) := by decide +kernel
theorem d2_10 : decode method_3_code 10 = .ok (.iload_n 1, 1) := by decide +kernel
theorem d2_11 : decode method_3_code 11 = .ok (.irem, 1) := by decide +kernel
theorem d2_12 : decode method_3_code 12 = .ok (.ireturn, 1) := by decide +kernel
theorem pd_0 : parseMethodDescriptor "(I)I" = some ⟨[.int], some .int⟩ := by decide +kernel
theorem ef_rm2 (m : MethodId) (x0 : Int32) (x1 : Int32) : entryFrame m #[(.int x0), (.int x1)] 2 = mkF m 0 #[.val (.int x0), .val (.int x1)] [] := by first | (simp [entryFrame, mkF, argsToLocals, Value.category]; done) | rfl
set_option maxRecDepth 65536 in
set_option maxHeartbeats 40000000 in
theorem rm2 (l : Launch) (Z : State) (a0 : Array Value) (hw : ∀ d ∈ tables_1, d.before a0 Z = true) (ws : List Jvm.Cond) (p1 p2 : Int32) (h0 : Heap) (n0 : Nat) (Z0 : n0 ≤ h0.size) (hnz : p2 ≠ 0) :
    MetFree l (⟨"com/example/holdover/holdover/analysis/BreadthFirstPathPinLaw", "draw", "(II)I"⟩ : MethodName) (head1 (Jvm.Cond.code (⟨"com/example/holdover/holdover/analysis/BreadthFirstPathPinLaw", "draw", "(II)I"⟩ : MethodName) method_3_code 2 (some .int) :: ws) ({ frames := 1, cells := 0, slots := 0, locals := 12 } : Room)) (fun a U => a = #[(.int p1), (.int p2)] ∧ Z.Warmed39 U.vm ∧ U.heap = h0) (fun _ _ _ _ _ => True) (fun _ U o U' => ∃ v L, o = .returned v ∧ Q2 p1 p2 h0 n0 v U'.heap L ∧ FrameEnd U o U' L ({ frames := 1, cells := 0, slots := 0, locals := 12 } : Room).cells ({ frames := 1, cells := 0, slots := 0, locals := 12 } : Room).slots) := by
  refine MetFree.of_bodySF (plainFor_of_name pn_com_example_holdover_holdover_analysis_BreadthFirstPathPinLaw) hisR ?_
  intro p e s m args below meth c s₁ Bd hml0 hP hK
  obtain ⟨rfl, hZ, hh⟩ := hP
  have hx := Bd.exec
  have hby := Bd.bytes
  have hml : c.maxLocals = 2 := hml0
  have hown : s.vm.findClass "com/example/holdover/holdover/analysis/BreadthFirstPathPinLaw" = some m.cls := findClass_of_methodNamed Bd.named
  have hnm := (name_of_methodNamed Bd.named Bd.method).1
  have X0 : Stand p l e ({ frames := 1, cells := 0, slots := 0, locals := 12 } : Room) s m #[(.int p1), (.int p2)] below meth c s₁ [] 0 0 := Stand.of_body Bd
  have e0 : s₁.heap = h0 := by rw [← hh, Bd.state]; rfl
  have N0 := Fr.nil n0
  have KP0 : Keep h0 h0 [] := Keep.refl h0 _
  obtain ⟨G, hG⟩ : ∃ G : State, G = s₁.setTop (entryFrame m #[(.int p1), (.int p2)] 2) := ⟨_, rfl⟩
  have pre0 : ∀ t, Steps p.tables e below (s₁.setTop (mkF m 0 #[.val (.int p1), .val (.int p2)] [])) t → Steps p.tables e below G t := fun t k => hG ▸ castTop (ef_rm2 m p1 p2) k
  have K1 : ∀ t, Steps p.tables e below (s₁.setTop (mkF m 1 #[.val (.int p1), .val (.int p2)] [(.int p1)])) t → Steps p.tables e below G t := by
    intro t k
    refine pre0 t ?_
    show Steps p.tables e below (s₁.setTop (mkF m 0 #[.val (.int p1), .val (.int p2)] [])) _
    refine XS.iloadN X0.here hx rfl (hb hby d2_0) rfl ?_
    show Steps p.tables e below (s₁.setTop (mkF m 1 #[.val (.int p1), .val (.int p2)] [(.int p1)])) _
    exact k
  by_cases hc2 : p1 < (0 : Int32)
  · have K3 : ∀ t, Steps p.tables e below (s₁.setTop (mkF m 5 #[.val (.int p1), .val (.int p2)] [(.int p1)])) t → Steps p.tables e below G t := by
      intro t k
      refine K1 t ?_
      show Steps p.tables e below (s₁.setTop (mkF m 1 #[.val (.int p1), .val (.int p2)] [(.int p1)])) _
      refine XS.ifNo X0.here hx rfl (hb hby d2_1) rfl ((if0 _ _).trans (tlt hc2).2.1) ?_
      refine XS.iloadN X0.here hx rfl (hb hby d2_4) rfl ?_
      show Steps p.tables e below (s₁.setTop (mkF m 5 #[.val (.int p1), .val (.int p2)] [(.int p1)])) _
      exact k
    obtain ⟨_, _, ⟨T4, L4, kk4, nn4⟩, -, X4, ⟨Lc4, hQ4, lq4, yq4, zq4⟩, st4⟩ := Jvm.LawKit.callS X0 hx (y := (⟨"com/example/holdover/holdover/analysis/BreadthFirstPathPinLaw", "neg", "(I)I"⟩ : MethodName)) hown (mvT hZ (hw _ (List.mem_of_getElem? (i := 1) rfl))) (mvT hZ (hw _ (List.mem_of_getElem? (i := 2) rfl))) (mvT hZ (hw _ (List.mem_of_getElem? (i := 3) rfl))) (mvT hZ (hw _ (List.mem_of_getElem? (i := 4) rfl))) (by decide) (backOf (W := 0) (rm1 l Z a0 hw [] p1 h0 n0 Z0 ) hZ (hw _ (List.mem_of_getElem? (i := 4) rfl)) (hw _ (List.mem_of_getElem? (i := 3) rfl)) (by decide) (by decide)) (g := (mkF m 5 #[.val (.int p1), .val (.int p2)] [(.int p1)])) rfl (by rw [hml]; rfl) (argsL := [(.int p1)]) (rest := []) (lenOf pd_0 rfl) rfl (by show 2 * 0 + _ ≤ _; exact Nat.le_of_eq rfl) (hb hby d2_5) (fun _ _ => ⟨rfl, e0, (by decide : 0 + 0 ≤ _), (by decide : 0 + 0 ≤ _)⟩)
    dsimp only [Pt.U, Pt.locs, Pt.cells, Pt.slots] at X4 lq4 yq4 zq4 st4 hQ4
    subst lq4 yq4 zq4
    obtain ⟨rfl, Nq4, e4⟩ := hQ4
    have N5 := Fr.app N0 Nq4
    have K6 : ∀ t, Steps p.tables e below (T4.setTop (mkF m 8 #[.val (.int p1), .val (.int p2)] [(.int (own_neg p1))])) t → Steps p.tables e below G t := fun t k => K3 t (st4 _ k)
    obtain ⟨fs, hr, hrun, hended, hW, hsame⟩ := X4.leave (v := some (.int (own_neg p1))) (fun h => by rw [Bd.returns] at h; cases h)
    have KF := K6
    rw [hG] at KF
    refine ⟨_, _, KF _ ?_, hrun, hended, _, _, rfl, ?_, ⟨_, rfl⟩, hW, hsame.mono (by decide) (by decide)⟩
    · show Steps p.tables e below (T4.setTop (mkF m 8 #[.val (.int p1), .val (.int p2)] [(.int (own_neg p1))])) _
      exact own_retI X4 hx Bd.returns (hb hby d2_8) hr
    · show Q2 p1 p2 h0 n0 _ T4.heap _
      rw [e4]
      exact ⟨by simp only [own_draw, if_pos hc2], N5, rfl⟩
  · obtain ⟨fs, hr, hrun, hended, hW, hsame⟩ := X0.leave (v := some (.int (p1 % p2))) (fun h => by rw [Bd.returns] at h; cases h)
    have KF := K1
    rw [hG] at KF
    refine ⟨_, _, KF _ ?_, hrun, hended, _, _, rfl, ?_, ⟨_, rfl⟩, hW, hsame.mono (by decide) (by decide)⟩
    · show Steps p.tables e below (s₁.setTop (mkF m 1 #[.val (.int p1), .val (.int p2)] [(.int p1)])) _
      refine XS.ifYes X0.here hx rfl (pc0 := 1) (pc' := 9) rfl (hb hby d2_1) rfl ((if0 _ _).trans (flt hc2).2.1) (by decide) (by decide) ?_
      refine XS.iloadN X0.here hx rfl (hb hby d2_9) rfl ?_
      refine XS.iloadN X0.here hx rfl (hb hby d2_10) rfl ?_
      refine iremM X0 hx rfl (hb hby d2_11) rfl hnz ?_
      show Steps p.tables e below (s₁.setTop (mkF m 12 #[.val (.int p1), .val (.int p2)] [(.int (p1 % p2))])) _
      exact own_retI X0 hx Bd.returns (hb hby d2_12) hr
    · show Q2 p1 p2 h0 n0 _ s₁.heap _
      rw [e0]
      exact ⟨by simp only [own_draw, if_neg hc2], N0, rfl⟩
def Q3 (Z : State) (p2 : Int32) (ws : List Value) (h0 : Heap) (n0 : Nat) (v : Option Value) (h : Heap) (L : List Loc) : Prop := ∃ (b : Addr) (k : ClassId) (z : Int32) (vs : List Value), v = some (.ref b) ∧ Fr n0 L ∧ Keep h0 h [] ∧ h0.size ≤ b ∧ Arv Z h b k .int z vs (.int (0 : Int32)) ∧ (¬ z < 1 ∧ ¬ 5 < z) ∧ (¬ (z - (1 : Int32)) < 0 ∧ (z - (1 : Int32)) < z) ∧ vs.getD (z - (1 : Int32)).toNatClampNeg (.int (0 : Int32)) = .int p2 ∧ own_hl z vs ws 0 ∧ own_hl z vs ws 1 ∧ own_hl z vs ws 2 ∧ own_hl z vs ws 3 ∧ own_hl z vs ws 4
theorem d3_0 : decode prog_14_method_5_code 0 = .ok (.iconst 1, 1) := by decide +kernel
theorem d3_1 : decode prog_14_method_5_code 1 = .ok (.istore_n 2, 1) := by decide +kernel
theorem d3_2 : decode prog_14_method_5_code 2 = .ok (.iload_n 1, 1) := by decide +kernel
theorem d3_3 : decode prog_14_method_5_code 3 = .ok (.istore_n 3, 1) := by decide +kernel
theorem d3_4 : decode prog_14_method_5_code 4 = .ok (.aload_n 0, 1) := by decide +kernel
theorem d3_5 : decode prog_14_method_5_code 5 = .ok (.iload_n 3, 1) := by decide +kernel
theorem d3_6 : decode prog_14_method_5_code 6 = .ok (.iaload, 1) := by decide +kernel
theorem d3_7 : decode prog_14_method_5_code 7 = .ok (.ifCond .lt 13, 3) := by decide +kernel
theorem d3_10 : decode prog_14_method_5_code 10 = .ok (.iinc 2 1, 3) := by decide +kernel
theorem d3_13 : decode prog_14_method_5_code 13 = .ok (.aload_n 0, 1) := by decide +kernel
theorem d3_14 : decode prog_14_method_5_code 14 = .ok (.iload_n 3, 1) := by decide +kernel
theorem d3_15 : decode prog_14_method_5_code 15 = .ok (.iaload, 1) := by decide +kernel
theorem d3_16 : decode prog_14_method_5_code 16 = .ok (.istore_n 3, 1) := by decide +kernel
theorem d3_17 : decode prog_14_method_5_code 17 = .ok (.goto (-13), 3) := by decide +kernel
theorem d3_20 : decode prog_14_method_5_code 20 = .ok (.iload_n 2, 1) := by decide +kernel
theorem d3_21 : decode prog_14_method_5_code 21 = .ok (.newarray .int, 2) := by decide +kernel
theorem d3_23 : decode prog_14_method_5_code 23 = .ok (.astore_n 3, 1) := by decide +kernel
theorem d3_24 : decode prog_14_method_5_code 24 = .ok (.iload_n 1, 1) := by decide +kernel
theorem d3_25 : decode prog_14_method_5_code 25 = .ok (.istore 4, 2) := by decide +kernel
theorem d3_27 : decode prog_14_method_5_code 27 = .ok (.iload_n 2, 1) := by decide +kernel
theorem d3_28 : decode prog_14_method_5_code 28 = .ok (.iconst 1, 1) := by decide +kernel
theorem d3_29 : decode prog_14_method_5_code 29 = .ok (.isub, 1) := by decide +kernel
theorem d3_30 : decode prog_14_method_5_code 30 = .ok (.istore 5, 2) := by decide +kernel
theorem d3_32 : decode prog_14_method_5_code 32 = .ok (.iload 5, 2) := by decide +kernel
theorem d3_34 : decode prog_14_method_5_code 34 = .ok (.ifCond .lt 21, 3) := by decide +kernel
theorem d3_37 : decode prog_14_method_5_code 37 = .ok (.aload_n 3, 1) := by decide +kernel
theorem d3_38 : decode prog_14_method_5_code 38 = .ok (.iload 5, 2) := by decide +kernel
theorem d3_40 : decode prog_14_method_5_code 40 = .ok (.iload 4, 2) := by decide +kernel
theorem d3_42 : decode prog_14_method_5_code 42 = .ok (.iastore, 1) := by decide +kernel
theorem d3_43 : decode prog_14_method_5_code 43 = .ok (.aload_n 0, 1) := by decide +kernel
theorem d3_44 : decode prog_14_method_5_code 44 = .ok (.iload 4, 2) := by decide +kernel
theorem d3_46 : decode prog_14_method_5_code 46 = .ok (.iaload, 1) := by decide +kernel
theorem d3_47 : decode prog_14_method_5_code 47 = .ok (.istore 4, 2) := by decide +kernel
theorem d3_49 : decode prog_14_method_5_code 49 = .ok (.iinc 5 (-1), 3) := by decide +kernel
theorem d3_52 : decode prog_14_method_5_code 52 = .ok (.goto (-20), 3) := by decide +kernel
theorem d3_55 : decode prog_14_method_5_code 55 = .ok (.aload_n 3, 1) := by decide +kernel
theorem d3_56 : decode prog_14_method_5_code 56 = .ok (.areturn, 1) := by decide +kernel
theorem pn_com_example_holdover_holdover_analysis_BreadthFirst : plainName "com/example/holdover/holdover/analysis/BreadthFirst" = true := by first | (simp [plainName, overriddenIn]; done) | decide +kernel
theorem ef_rm3 (m : MethodId) (x0 : Addr) (x1 : Int32) : entryFrame m #[(.ref x0), (.int x1)] 6 = mkF m 0 #[.val (.ref x0), .val (.int x1), .unset, .unset, .unset, .unset] [] := by first | (simp [entryFrame, mkF, argsToLocals, Value.category]; done) | rfl
set_option maxRecDepth 65536 in
set_option maxHeartbeats 40000000 in
theorem rm3 (l : Launch) (Z : State) (a0 : Array Value) (hw : ∀ d ∈ tables_1, d.before a0 Z = true) (ws : List Jvm.Cond) (a1 : Addr) (p2 : Int32) (k : ClassId) (q0 q1 q2 q3 q4 : Int32) (h0 : Heap) (n0 : Nat) (Z0 : n0 ≤ h0.size) (V1 : Arv Z h0 a1 k .int (5 : Int32) [(.int q0), (.int q1), (.int q2), (.int q3), (.int q4)] (.int (0 : Int32))) (hp : p2 = 0 ∨ p2 = 1 ∨ p2 = 2 ∨ p2 = 3 ∨ p2 = 4) (hq0 : q0 < 0) (hq1 : q1 < 1) (hq2 : q2 < 2) (hq3 : q3 < 3) (hq4 : q4 < 4) :
    MetFree l (⟨"com/example/holdover/holdover/analysis/BreadthFirst", "path", "([II)[I"⟩ : MethodName) (head1 (Jvm.Cond.code (⟨"com/example/holdover/holdover/analysis/BreadthFirst", "path", "([II)[I"⟩ : MethodName) prog_14_method_5_code 6 (some (.array .int)) :: ws) ({ frames := 0, cells := 1, slots := 5, locals := 0 } : Room)) (fun a U => a = #[(.ref a1), (.int p2)] ∧ Z.Warmed39 U.vm ∧ U.heap = h0) (fun _ _ _ _ _ => True) (fun _ U o U' => ∃ v L, o = .returned v ∧ Q3 Z p2 [(.int q0), (.int q1), (.int q2), (.int q3), (.int q4)] h0 n0 v U'.heap L ∧ FrameEnd U o U' L ({ frames := 0, cells := 1, slots := 5, locals := 0 } : Room).cells ({ frames := 0, cells := 1, slots := 5, locals := 0 } : Room).slots) := by
  refine MetFree.of_bodySF (plainFor_of_name pn_com_example_holdover_holdover_analysis_BreadthFirst) hisR ?_
  intro p e s m args below meth c s₁ Bd hml0 hP hK
  obtain ⟨rfl, hZ, hh⟩ := hP
  have hx := Bd.exec
  have hby := Bd.bytes
  have hml : c.maxLocals = 6 := hml0
  have hown : s.vm.findClass "com/example/holdover/holdover/analysis/BreadthFirst" = some m.cls := findClass_of_methodNamed Bd.named
  have hnm := (name_of_methodNamed Bd.named Bd.method).1
  have X0 : Stand p l e ({ frames := 0, cells := 1, slots := 5, locals := 0 } : Room) s m #[(.ref a1), (.int p2)] below meth c s₁ [] 0 0 := Stand.of_body Bd
  have e0 : s₁.heap = h0 := by rw [← hh, Bd.state]; rfl
  have N0 := Fr.nil n0
  have KP0 : Keep h0 h0 [] := Keep.refl h0 _
  obtain ⟨G, hG⟩ : ∃ G : State, G = s₁.setTop (entryFrame m #[(.ref a1), (.int p2)] 6) := ⟨_, rfl⟩
  have pre0 : ∀ t, Steps p.tables e below (s₁.setTop (mkF m 0 #[.val (.ref a1), .val (.int p2), .unset, .unset, .unset, .unset] [])) t → Steps p.tables e below G t := fun t k => hG ▸ castTop (ef_rm3 m a1 p2) k
  rcases hp with rfl | rfl | rfl | rfl | rfl
  · have K1 : ∀ t, Steps p.tables e below (s₁.setTop (mkF m 6 #[.val (.ref a1), .val (.int (0 : Int32)), .val (.int (1 : Int32)), .val (.int (0 : Int32)), .unset, .unset] [(.int (0 : Int32)), (.ref a1)])) t → Steps p.tables e below G t := by
      intro t k
      refine pre0 t ?_
      show Steps p.tables e below (s₁.setTop (mkF m 0 #[.val (.ref a1), .val (.int (0 : Int32)), .unset, .unset, .unset, .unset] [])) _
      refine XS.iconst X0.here hx rfl (hb hby d3_0) ?_
      refine XS.istoreN X0.here hx rfl (hb hby d3_1) rfl (l' := #[.val (.ref a1), .val (.int (0 : Int32)), .val (.int (1 : Int32)), .unset, .unset, .unset]) rfl ?_
      refine XS.iloadN X0.here hx rfl (hb hby d3_2) rfl ?_
      refine XS.istoreN X0.here hx rfl (hb hby d3_3) rfl (l' := #[.val (.ref a1), .val (.int (0 : Int32)), .val (.int (1 : Int32)), .val (.int (0 : Int32)), .unset, .unset]) rfl ?_
      show Steps p.tables e below (s₁.setTop (mkF m 4 #[.val (.ref a1), .val (.int (0 : Int32)), .val (.int (1 : Int32)), .val (.int (0 : Int32)), .unset, .unset] [])) _
      refine XS.aloadN X0.here hx rfl (hb hby d3_4) rfl rfl ?_
      refine XS.iloadN X0.here hx rfl (hb hby d3_5) rfl ?_
      show Steps p.tables e below (s₁.setTop (mkF m 6 #[.val (.ref a1), .val (.int (0 : Int32)), .val (.int (1 : Int32)), .val (.int (0 : Int32)), .unset, .unset] [(.int (0 : Int32)), (.ref a1)])) _
      exact k
    obtain ⟨cl2, Ar2, qc2, S2, M2, Ha2, Ga2⟩ := id V1
    have hin2 : ¬ ((0 : Int32) < 0 ∨ cl2.slots.size ≤ ((0 : Int32)).toNatClampNeg) := inb_of S2 ⟨by decide, by decide⟩
    have hat2 : cl2.slots[((0 : Int32)).toNatClampNeg]? = some (.int q0) := Ha2.at hin2 rfl
    have K3 : ∀ t, Steps p.tables e below (s₁.setTop (mkF m 7 #[.val (.ref a1), .val (.int (0 : Int32)), .val (.int (1 : Int32)), .val (.int (0 : Int32)), .unset, .unset] [(.int q0)])) t → Steps p.tables e below G t := fun t k => K1 t (X0.iaload hx (j := (0 : Int32)) (v := (.int q0)) (by rw [e0]; exact Ar2.1) (State.isArrayOf_alike hZ.alike Ar2.2.1) Ar2.2.2 hin2 hat2 (g := (mkF m 6 #[.val (.ref a1), .val (.int (0 : Int32)), .val (.int (1 : Int32)), .val (.int (0 : Int32)), .unset, .unset] [(.int (0 : Int32)), (.ref a1)])) rfl rfl (hb hby d3_6) _ k)
    have K4 : ∀ t, Steps p.tables e below (s₁.setTop (mkF m 21 #[.val (.ref a1), .val (.int (0 : Int32)), .val (.int (1 : Int32)), .val (.int (0 : Int32)), .unset, .unset] [(.int (1 : Int32))])) t → Steps p.tables e below G t := by
      intro t k
      refine K3 t ?_
      show Steps p.tables e below (s₁.setTop (mkF m 7 #[.val (.ref a1), .val (.int (0 : Int32)), .val (.int (1 : Int32)), .val (.int (0 : Int32)), .unset, .unset] [(.int q0)])) _
      refine XS.ifYes X0.here hx rfl (pc0 := 7) (pc' := 20) rfl (hb hby d3_7) rfl ((if0 _ _).trans (tlt hq0).1) (by decide) (by decide) ?_
      refine XS.iloadN X0.here hx rfl (hb hby d3_20) rfl ?_
      show Steps p.tables e below (s₁.setTop (mkF m 21 #[.val (.ref a1), .val (.int (0 : Int32)), .val (.int (1 : Int32)), .val (.int (0 : Int32)), .unset, .unset] [(.int (1 : Int32))])) _
      exact k
    obtain ⟨T5, h5, kn5, X5, e5, E5, A5, st5⟩ := newP X0 hx hZ (hw _ (List.mem_of_getElem? (i := 8) rfl)) e0 (g := (mkF m 21 #[.val (.ref a1), .val (.int (0 : Int32)), .val (.int (1 : Int32)), .val (.int (0 : Int32)), .unset, .unset] [(.int (1 : Int32))])) rfl (hb hby d3_21) rfl (by decide) (cap := 1) (by decide) (by decide) (by decide) (by decide)
    obtain ⟨b5, g5⟩ : ∃ z, z = h0.size := ⟨_, rfl⟩
    rw [← g5] at A5 st5
    have ne_a1_b5 : a1 ≠ b5 := Nat.ne_of_lt (Nat.lt_of_lt_of_le V1.lt (Nat.le_of_eq g5.symm))
    have g_b5 : n0 ≤ b5 := Nat.le_trans Z0 (Nat.le_of_eq g5.symm)
    have sz_b5 : h0.size ≤ b5 := Nat.le_trans KP0.1 (Nat.le_of_eq g5.symm)
    have f6 := V1.ext E5
    have Z7 : n0 ≤ h5.size := Nat.le_trans Z0 E5.1
    have KP8 : Keep h0 h5 [] := KP0.ext E5
    have K9 : ∀ t, Steps p.tables e below (T5.setTop (mkF m 23 #[.val (.ref a1), .val (.int (0 : Int32)), .val (.int (1 : Int32)), .val (.int (0 : Int32)), .unset, .unset] [(.ref b5)])) t → Steps p.tables e below G t := fun t k => K4 t (st5 t k)
    have V5 : Arv Z h5 b5 kn5 .int (1 : Int32) [(.int (0 : Int32))] (.int (0 : Int32)) := (Arv.new A5 (by decide)).pad (pad_rep [] (.int (0 : Int32)) 1)
    have K10 : ∀ t, Steps p.tables e below (T5.setTop (mkF m 42 #[.val (.ref a1), .val (.int (0 : Int32)), .val (.int (1 : Int32)), .val (.ref b5), .val (.int (0 : Int32)), .val (.int (0 : Int32))] [(.int (0 : Int32)), (.int (0 : Int32)), (.ref b5)])) t → Steps p.tables e below G t := by
      intro t k
      refine K9 t ?_
      show Steps p.tables e below (T5.setTop (mkF m 23 #[.val (.ref a1), .val (.int (0 : Int32)), .val (.int (1 : Int32)), .val (.int (0 : Int32)), .unset, .unset] [(.ref b5)])) _
      refine XS.astoreN X5.here hx rfl (hb hby d3_23) rfl rfl (l' := #[.val (.ref a1), .val (.int (0 : Int32)), .val (.int (1 : Int32)), .val (.ref b5), .unset, .unset]) rfl ?_
      refine XS.iloadN X5.here hx rfl (hb hby d3_24) rfl ?_
      refine XS.istore X5.here hx rfl (hb hby d3_25) rfl (l' := #[.val (.ref a1), .val (.int (0 : Int32)), .val (.int (1 : Int32)), .val (.ref b5), .val (.int (0 : Int32)), .unset]) rfl ?_
      refine XS.iloadN X5.here hx rfl (hb hby d3_27) rfl ?_
      show Steps p.tables e below (T5.setTop (mkF m 28 #[.val (.ref a1), .val (.int (0 : Int32)), .val (.int (1 : Int32)), .val (.ref b5), .val (.int (0 : Int32)), .unset] [(.int (1 : Int32))])) _
      refine XS.iconst X5.here hx rfl (hb hby d3_28) ?_
      refine XS.isub X5.here hx rfl (hb hby d3_29) rfl ?_
      refine XS.istore X5.here hx rfl (hb hby d3_30) rfl (l' := #[.val (.ref a1), .val (.int (0 : Int32)), .val (.int (1 : Int32)), .val (.ref b5), .val (.int (0 : Int32)), .val (.int (0 : Int32))]) rfl ?_
      refine XS.iload X5.here hx rfl (hb hby d3_32) rfl ?_
      show Steps p.tables e below (T5.setTop (mkF m 34 #[.val (.ref a1), .val (.int (0 : Int32)), .val (.int (1 : Int32)), .val (.ref b5), .val (.int (0 : Int32)), .val (.int (0 : Int32))] [(.int (0 : Int32))])) _
      refine XS.ifNo X5.here hx rfl (hb hby d3_34) rfl ((if0 _ _).trans (flt (by decide)).1) ?_
      refine XS.aloadN X5.here hx rfl (hb hby d3_37) rfl rfl ?_
      refine XS.iload X5.here hx rfl (hb hby d3_38) rfl ?_
      refine XS.iload X5.here hx rfl (hb hby d3_40) rfl ?_
      show Steps p.tables e below (T5.setTop (mkF m 42 #[.val (.ref a1), .val (.int (0 : Int32)), .val (.int (1 : Int32)), .val (.ref b5), .val (.int (0 : Int32)), .val (.int (0 : Int32))] [(.int (0 : Int32)), (.int (0 : Int32)), (.ref b5)])) _
      exact k
    obtain ⟨cl11, Ar11, qc11, S11, M11, Ha11, Ga11⟩ := id V5
    have hin11 : ¬ ((0 : Int32) < 0 ∨ cl11.slots.size ≤ ((0 : Int32)).toNatClampNeg) := inb_of S11 ⟨by decide, by decide⟩
    obtain ⟨T11, h11, X11, e11, W11, st11⟩ := stI X5 hx hZ e5 Ar11 (j := (0 : Int32)) hin11 (g := (mkF m 42 #[.val (.ref a1), .val (.int (0 : Int32)), .val (.int (1 : Int32)), .val (.ref b5), .val (.int (0 : Int32)), .val (.int (0 : Int32))] [(.int (0 : Int32)), (.int (0 : Int32)), (.ref b5)])) rfl rfl (hb hby d3_42)
    have V11 : Arv Z h11 b5 kn5 .int (1 : Int32) [(.int (0 : Int32))] (.int (0 : Int32)) := Arv.set Ar11 qc11 S11 M11 Ha11 Ga11 rfl W11 0 rfl (Nat.le_of_ble_eq_true rfl)
    have K12 : ∀ t, Steps p.tables e below (T11.setTop (mkF m 43 #[.val (.ref a1), .val (.int (0 : Int32)), .val (.int (1 : Int32)), .val (.ref b5), .val (.int (0 : Int32)), .val (.int (0 : Int32))] [])) t → Steps p.tables e below G t := fun t k => K10 t (st11 t k)
    have f13 := f6.other W11 ne_a1_b5
    have Z14 : n0 ≤ h11.size := Nat.le_trans Z7 (Keep.of_wr W11).1
    have KP15 : Keep h0 h11 [] := KP8.wr W11 (Or.inr sz_b5)
    have N16 := Fr.snoc X11 N0 g_b5
    have K17 : ∀ t, Steps p.tables e below (T11.setTop (mkF m 46 #[.val (.ref a1), .val (.int (0 : Int32)), .val (.int (1 : Int32)), .val (.ref b5), .val (.int (0 : Int32)), .val (.int (0 : Int32))] [(.int (0 : Int32)), (.ref a1)])) t → Steps p.tables e below G t := by
      intro t k
      refine K12 t ?_
      show Steps p.tables e below (T11.setTop (mkF m 43 #[.val (.ref a1), .val (.int (0 : Int32)), .val (.int (1 : Int32)), .val (.ref b5), .val (.int (0 : Int32)), .val (.int (0 : Int32))] [])) _
      refine XS.aloadN X11.here hx rfl (hb hby d3_43) rfl rfl ?_
      refine XS.iload X11.here hx rfl (hb hby d3_44) rfl ?_
      show Steps p.tables e below (T11.setTop (mkF m 46 #[.val (.ref a1), .val (.int (0 : Int32)), .val (.int (1 : Int32)), .val (.ref b5), .val (.int (0 : Int32)), .val (.int (0 : Int32))] [(.int (0 : Int32)), (.ref a1)])) _
      exact k
    obtain ⟨cl18, Ar18, qc18, S18, M18, Ha18, Ga18⟩ := id f13
    have hin18 : ¬ ((0 : Int32) < 0 ∨ cl18.slots.size ≤ ((0 : Int32)).toNatClampNeg) := inb_of S18 ⟨by decide, by decide⟩
    have hat18 : cl18.slots[((0 : Int32)).toNatClampNeg]? = some (.int q0) := Ha18.at hin18 rfl
    have K19 : ∀ t, Steps p.tables e below (T11.setTop (mkF m 47 #[.val (.ref a1), .val (.int (0 : Int32)), .val (.int (1 : Int32)), .val (.ref b5), .val (.int (0 : Int32)), .val (.int (0 : Int32))] [(.int q0)])) t → Steps p.tables e below G t := fun t k => K17 t (X11.iaload hx (j := (0 : Int32)) (v := (.int q0)) (by rw [e11]; exact Ar18.1) (State.isArrayOf_alike hZ.alike Ar18.2.1) Ar18.2.2 hin18 hat18 (g := (mkF m 46 #[.val (.ref a1), .val (.int (0 : Int32)), .val (.int (1 : Int32)), .val (.ref b5), .val (.int (0 : Int32)), .val (.int (0 : Int32))] [(.int (0 : Int32)), (.ref a1)])) rfl rfl (hb hby d3_46) _ k)
    obtain ⟨fs, hr, hrun, hended, hW, hsame⟩ := X11.leave (v := some (.ref b5)) (fun h => by rw [Bd.returns] at h; cases h)
    have KF := K19
    rw [hG] at KF
    refine ⟨_, _, KF _ ?_, hrun, hended, _, _, rfl, ?_, ⟨_, rfl⟩, hW, hsame.mono (by decide) (by decide)⟩
    · show Steps p.tables e below (T11.setTop (mkF m 47 #[.val (.ref a1), .val (.int (0 : Int32)), .val (.int (1 : Int32)), .val (.ref b5), .val (.int (0 : Int32)), .val (.int (0 : Int32))] [(.int q0)])) _
      refine XS.istore X11.here hx rfl (hb hby d3_47) rfl (l' := #[.val (.ref a1), .val (.int (0 : Int32)), .val (.int (1 : Int32)), .val (.ref b5), .val (.int q0), .val (.int (0 : Int32))]) rfl ?_
      refine XS.iinc X11.here hx rfl (hb hby d3_49) rfl (l' := #[.val (.ref a1), .val (.int (0 : Int32)), .val (.int (1 : Int32)), .val (.ref b5), .val (.int q0), .val (.int (-1 : Int32))]) rfl ?_
      refine XS.goto X11.here hx rfl (pc0 := 52) (pc' := 32) rfl (hb hby d3_52) (by decide) (by decide) ?_
      refine XS.iload X11.here hx rfl (hb hby d3_32) rfl ?_
      show Steps p.tables e below (T11.setTop (mkF m 34 #[.val (.ref a1), .val (.int (0 : Int32)), .val (.int (1 : Int32)), .val (.ref b5), .val (.int q0), .val (.int (-1 : Int32))] [(.int (-1 : Int32))])) _
      refine XS.ifYes X11.here hx rfl (pc0 := 34) (pc' := 55) rfl (hb hby d3_34) rfl ((if0 _ _).trans (tlt (by decide)).1) (by decide) (by decide) ?_
      refine XS.aloadN X11.here hx rfl (hb hby d3_55) rfl rfl ?_
      show Steps p.tables e below (T11.setTop (mkF m 56 #[.val (.ref a1), .val (.int (0 : Int32)), .val (.int (1 : Int32)), .val (.ref b5), .val (.int q0), .val (.int (-1 : Int32))] [(.ref b5)])) _
      exact own_retA X11 hx Bd.returns rfl rfl rfl (hb hby d3_56) hr
    · show Q3 Z (0 : Int32) [(.int q0), (.int q1), (.int q2), (.int q3), (.int q4)] h0 n0 _ T11.heap _
      rw [e11]
      exact ⟨_, _, _, _, rfl, N16, KP15, sz_b5, V11, ⟨by decide, by decide⟩, ⟨by decide, by decide⟩, rfl, Or.inr ⟨0, q0, 0, by decide, rfl, ⟨by decide, by decide⟩, rfl, Or.inl ⟨rfl, hq0⟩⟩, Or.inl (by decide), Or.inl (by decide), Or.inl (by decide), Or.inl (by decide)⟩
  · have K20 : ∀ t, Steps p.tables e below (s₁.setTop (mkF m 6 #[.val (.ref a1), .val (.int (1 : Int32)), .val (.int (1 : Int32)), .val (.int (1 : Int32)), .unset, .unset] [(.int (1 : Int32)), (.ref a1)])) t → Steps p.tables e below G t := by
      intro t k
      refine pre0 t ?_
      show Steps p.tables e below (s₁.setTop (mkF m 0 #[.val (.ref a1), .val (.int (1 : Int32)), .unset, .unset, .unset, .unset] [])) _
      refine XS.iconst X0.here hx rfl (hb hby d3_0) ?_
      refine XS.istoreN X0.here hx rfl (hb hby d3_1) rfl (l' := #[.val (.ref a1), .val (.int (1 : Int32)), .val (.int (1 : Int32)), .unset, .unset, .unset]) rfl ?_
      refine XS.iloadN X0.here hx rfl (hb hby d3_2) rfl ?_
      refine XS.istoreN X0.here hx rfl (hb hby d3_3) rfl (l' := #[.val (.ref a1), .val (.int (1 : Int32)), .val (.int (1 : Int32)), .val (.int (1 : Int32)), .unset, .unset]) rfl ?_
      show Steps p.tables e below (s₁.setTop (mkF m 4 #[.val (.ref a1), .val (.int (1 : Int32)), .val (.int (1 : Int32)), .val (.int (1 : Int32)), .unset, .unset] [])) _
      refine XS.aloadN X0.here hx rfl (hb hby d3_4) rfl rfl ?_
      refine XS.iloadN X0.here hx rfl (hb hby d3_5) rfl ?_
      show Steps p.tables e below (s₁.setTop (mkF m 6 #[.val (.ref a1), .val (.int (1 : Int32)), .val (.int (1 : Int32)), .val (.int (1 : Int32)), .unset, .unset] [(.int (1 : Int32)), (.ref a1)])) _
      exact k
    obtain ⟨cl21, Ar21, qc21, S21, M21, Ha21, Ga21⟩ := id V1
    have hin21 : ¬ ((1 : Int32) < 0 ∨ cl21.slots.size ≤ ((1 : Int32)).toNatClampNeg) := inb_of S21 ⟨by decide, by decide⟩
    have hat21 : cl21.slots[((1 : Int32)).toNatClampNeg]? = some (.int q1) := Ha21.at hin21 rfl
    have K22 : ∀ t, Steps p.tables e below (s₁.setTop (mkF m 7 #[.val (.ref a1), .val (.int (1 : Int32)), .val (.int (1 : Int32)), .val (.int (1 : Int32)), .unset, .unset] [(.int q1)])) t → Steps p.tables e below G t := fun t k => K20 t (X0.iaload hx (j := (1 : Int32)) (v := (.int q1)) (by rw [e0]; exact Ar21.1) (State.isArrayOf_alike hZ.alike Ar21.2.1) Ar21.2.2 hin21 hat21 (g := (mkF m 6 #[.val (.ref a1), .val (.int (1 : Int32)), .val (.int (1 : Int32)), .val (.int (1 : Int32)), .unset, .unset] [(.int (1 : Int32)), (.ref a1)])) rfl rfl (hb hby d3_6) _ k)
    by_cases hc23 : q1 < (0 : Int32)
    · have K24 : ∀ t, Steps p.tables e below (s₁.setTop (mkF m 21 #[.val (.ref a1), .val (.int (1 : Int32)), .val (.int (1 : Int32)), .val (.int (1 : Int32)), .unset, .unset] [(.int (1 : Int32))])) t → Steps p.tables e below G t := by
        intro t k
        refine K22 t ?_
        show Steps p.tables e below (s₁.setTop (mkF m 7 #[.val (.ref a1), .val (.int (1 : Int32)), .val (.int (1 : Int32)), .val (.int (1 : Int32)), .unset, .unset] [(.int q1)])) _
        refine XS.ifYes X0.here hx rfl (pc0 := 7) (pc' := 20) rfl (hb hby d3_7) rfl ((if0 _ _).trans (tlt hc23).1) (by decide) (by decide) ?_
        refine XS.iloadN X0.here hx rfl (hb hby d3_20) rfl ?_
        show Steps p.tables e below (s₁.setTop (mkF m 21 #[.val (.ref a1), .val (.int (1 : Int32)), .val (.int (1 : Int32)), .val (.int (1 : Int32)), .unset, .unset] [(.int (1 : Int32))])) _
        exact k
      obtain ⟨T25, h25, kn25, X25, e25, E25, A25, st25⟩ := newP X0 hx hZ (hw _ (List.mem_of_getElem? (i := 8) rfl)) e0 (g := (mkF m 21 #[.val (.ref a1), .val (.int (1 : Int32)), .val (.int (1 : Int32)), .val (.int (1 : Int32)), .unset, .unset] [(.int (1 : Int32))])) rfl (hb hby d3_21) rfl (by decide) (cap := 1) (by decide) (by decide) (by decide) (by decide)
      obtain ⟨b25, g25⟩ : ∃ z, z = h0.size := ⟨_, rfl⟩
      rw [← g25] at A25 st25
      have ne_a1_b25 : a1 ≠ b25 := Nat.ne_of_lt (Nat.lt_of_lt_of_le V1.lt (Nat.le_of_eq g25.symm))
      have g_b25 : n0 ≤ b25 := Nat.le_trans Z0 (Nat.le_of_eq g25.symm)
      have sz_b25 : h0.size ≤ b25 := Nat.le_trans KP0.1 (Nat.le_of_eq g25.symm)
      have f26 := V1.ext E25
      have Z27 : n0 ≤ h25.size := Nat.le_trans Z0 E25.1
      have KP28 : Keep h0 h25 [] := KP0.ext E25
      have K29 : ∀ t, Steps p.tables e below (T25.setTop (mkF m 23 #[.val (.ref a1), .val (.int (1 : Int32)), .val (.int (1 : Int32)), .val (.int (1 : Int32)), .unset, .unset] [(.ref b25)])) t → Steps p.tables e below G t := fun t k => K24 t (st25 t k)
      have V25 : Arv Z h25 b25 kn25 .int (1 : Int32) [(.int (0 : Int32))] (.int (0 : Int32)) := (Arv.new A25 (by decide)).pad (pad_rep [] (.int (0 : Int32)) 1)
      have K30 : ∀ t, Steps p.tables e below (T25.setTop (mkF m 42 #[.val (.ref a1), .val (.int (1 : Int32)), .val (.int (1 : Int32)), .val (.ref b25), .val (.int (1 : Int32)), .val (.int (0 : Int32))] [(.int (1 : Int32)), (.int (0 : Int32)), (.ref b25)])) t → Steps p.tables e below G t := by
        intro t k
        refine K29 t ?_
        show Steps p.tables e below (T25.setTop (mkF m 23 #[.val (.ref a1), .val (.int (1 : Int32)), .val (.int (1 : Int32)), .val (.int (1 : Int32)), .unset, .unset] [(.ref b25)])) _
        refine XS.astoreN X25.here hx rfl (hb hby d3_23) rfl rfl (l' := #[.val (.ref a1), .val (.int (1 : Int32)), .val (.int (1 : Int32)), .val (.ref b25), .unset, .unset]) rfl ?_
        refine XS.iloadN X25.here hx rfl (hb hby d3_24) rfl ?_
        refine XS.istore X25.here hx rfl (hb hby d3_25) rfl (l' := #[.val (.ref a1), .val (.int (1 : Int32)), .val (.int (1 : Int32)), .val (.ref b25), .val (.int (1 : Int32)), .unset]) rfl ?_
        refine XS.iloadN X25.here hx rfl (hb hby d3_27) rfl ?_
        show Steps p.tables e below (T25.setTop (mkF m 28 #[.val (.ref a1), .val (.int (1 : Int32)), .val (.int (1 : Int32)), .val (.ref b25), .val (.int (1 : Int32)), .unset] [(.int (1 : Int32))])) _
        refine XS.iconst X25.here hx rfl (hb hby d3_28) ?_
        refine XS.isub X25.here hx rfl (hb hby d3_29) rfl ?_
        refine XS.istore X25.here hx rfl (hb hby d3_30) rfl (l' := #[.val (.ref a1), .val (.int (1 : Int32)), .val (.int (1 : Int32)), .val (.ref b25), .val (.int (1 : Int32)), .val (.int (0 : Int32))]) rfl ?_
        refine XS.iload X25.here hx rfl (hb hby d3_32) rfl ?_
        show Steps p.tables e below (T25.setTop (mkF m 34 #[.val (.ref a1), .val (.int (1 : Int32)), .val (.int (1 : Int32)), .val (.ref b25), .val (.int (1 : Int32)), .val (.int (0 : Int32))] [(.int (0 : Int32))])) _
        refine XS.ifNo X25.here hx rfl (hb hby d3_34) rfl ((if0 _ _).trans (flt (by decide)).1) ?_
        refine XS.aloadN X25.here hx rfl (hb hby d3_37) rfl rfl ?_
        refine XS.iload X25.here hx rfl (hb hby d3_38) rfl ?_
        refine XS.iload X25.here hx rfl (hb hby d3_40) rfl ?_
        show Steps p.tables e below (T25.setTop (mkF m 42 #[.val (.ref a1), .val (.int (1 : Int32)), .val (.int (1 : Int32)), .val (.ref b25), .val (.int (1 : Int32)), .val (.int (0 : Int32))] [(.int (1 : Int32)), (.int (0 : Int32)), (.ref b25)])) _
        exact k
      obtain ⟨cl31, Ar31, qc31, S31, M31, Ha31, Ga31⟩ := id V25
      have hin31 : ¬ ((0 : Int32) < 0 ∨ cl31.slots.size ≤ ((0 : Int32)).toNatClampNeg) := inb_of S31 ⟨by decide, by decide⟩
      obtain ⟨T31, h31, X31, e31, W31, st31⟩ := stI X25 hx hZ e25 Ar31 (j := (0 : Int32)) hin31 (g := (mkF m 42 #[.val (.ref a1), .val (.int (1 : Int32)), .val (.int (1 : Int32)), .val (.ref b25), .val (.int (1 : Int32)), .val (.int (0 : Int32))] [(.int (1 : Int32)), (.int (0 : Int32)), (.ref b25)])) rfl rfl (hb hby d3_42)
      have V31 : Arv Z h31 b25 kn25 .int (1 : Int32) [(.int (1 : Int32))] (.int (0 : Int32)) := Arv.set Ar31 qc31 S31 M31 Ha31 Ga31 rfl W31 0 rfl (Nat.le_of_ble_eq_true rfl)
      have K32 : ∀ t, Steps p.tables e below (T31.setTop (mkF m 43 #[.val (.ref a1), .val (.int (1 : Int32)), .val (.int (1 : Int32)), .val (.ref b25), .val (.int (1 : Int32)), .val (.int (0 : Int32))] [])) t → Steps p.tables e below G t := fun t k => K30 t (st31 t k)
      have f33 := f26.other W31 ne_a1_b25
      have Z34 : n0 ≤ h31.size := Nat.le_trans Z27 (Keep.of_wr W31).1
      have KP35 : Keep h0 h31 [] := KP28.wr W31 (Or.inr sz_b25)
      have N36 := Fr.snoc X31 N0 g_b25
      have K37 : ∀ t, Steps p.tables e below (T31.setTop (mkF m 46 #[.val (.ref a1), .val (.int (1 : Int32)), .val (.int (1 : Int32)), .val (.ref b25), .val (.int (1 : Int32)), .val (.int (0 : Int32))] [(.int (1 : Int32)), (.ref a1)])) t → Steps p.tables e below G t := by
        intro t k
        refine K32 t ?_
        show Steps p.tables e below (T31.setTop (mkF m 43 #[.val (.ref a1), .val (.int (1 : Int32)), .val (.int (1 : Int32)), .val (.ref b25), .val (.int (1 : Int32)), .val (.int (0 : Int32))] [])) _
        refine XS.aloadN X31.here hx rfl (hb hby d3_43) rfl rfl ?_
        refine XS.iload X31.here hx rfl (hb hby d3_44) rfl ?_
        show Steps p.tables e below (T31.setTop (mkF m 46 #[.val (.ref a1), .val (.int (1 : Int32)), .val (.int (1 : Int32)), .val (.ref b25), .val (.int (1 : Int32)), .val (.int (0 : Int32))] [(.int (1 : Int32)), (.ref a1)])) _
        exact k
      obtain ⟨cl38, Ar38, qc38, S38, M38, Ha38, Ga38⟩ := id f33
      have hin38 : ¬ ((1 : Int32) < 0 ∨ cl38.slots.size ≤ ((1 : Int32)).toNatClampNeg) := inb_of S38 ⟨by decide, by decide⟩
      have hat38 : cl38.slots[((1 : Int32)).toNatClampNeg]? = some (.int q1) := Ha38.at hin38 rfl
      have K39 : ∀ t, Steps p.tables e below (T31.setTop (mkF m 47 #[.val (.ref a1), .val (.int (1 : Int32)), .val (.int (1 : Int32)), .val (.ref b25), .val (.int (1 : Int32)), .val (.int (0 : Int32))] [(.int q1)])) t → Steps p.tables e below G t := fun t k => K37 t (X31.iaload hx (j := (1 : Int32)) (v := (.int q1)) (by rw [e31]; exact Ar38.1) (State.isArrayOf_alike hZ.alike Ar38.2.1) Ar38.2.2 hin38 hat38 (g := (mkF m 46 #[.val (.ref a1), .val (.int (1 : Int32)), .val (.int (1 : Int32)), .val (.ref b25), .val (.int (1 : Int32)), .val (.int (0 : Int32))] [(.int (1 : Int32)), (.ref a1)])) rfl rfl (hb hby d3_46) _ k)
      obtain ⟨fs, hr, hrun, hended, hW, hsame⟩ := X31.leave (v := some (.ref b25)) (fun h => by rw [Bd.returns] at h; cases h)
      have KF := K39
      rw [hG] at KF
      refine ⟨_, _, KF _ ?_, hrun, hended, _, _, rfl, ?_, ⟨_, rfl⟩, hW, hsame.mono (by decide) (by decide)⟩
      · show Steps p.tables e below (T31.setTop (mkF m 47 #[.val (.ref a1), .val (.int (1 : Int32)), .val (.int (1 : Int32)), .val (.ref b25), .val (.int (1 : Int32)), .val (.int (0 : Int32))] [(.int q1)])) _
        refine XS.istore X31.here hx rfl (hb hby d3_47) rfl (l' := #[.val (.ref a1), .val (.int (1 : Int32)), .val (.int (1 : Int32)), .val (.ref b25), .val (.int q1), .val (.int (0 : Int32))]) rfl ?_
        refine XS.iinc X31.here hx rfl (hb hby d3_49) rfl (l' := #[.val (.ref a1), .val (.int (1 : Int32)), .val (.int (1 : Int32)), .val (.ref b25), .val (.int q1), .val (.int (-1 : Int32))]) rfl ?_
        refine XS.goto X31.here hx rfl (pc0 := 52) (pc' := 32) rfl (hb hby d3_52) (by decide) (by decide) ?_
        refine XS.iload X31.here hx rfl (hb hby d3_32) rfl ?_
        show Steps p.tables e below (T31.setTop (mkF m 34 #[.val (.ref a1), .val (.int (1 : Int32)), .val (.int (1 : Int32)), .val (.ref b25), .val (.int q1), .val (.int (-1 : Int32))] [(.int (-1 : Int32))])) _
        refine XS.ifYes X31.here hx rfl (pc0 := 34) (pc' := 55) rfl (hb hby d3_34) rfl ((if0 _ _).trans (tlt (by decide)).1) (by decide) (by decide) ?_
        refine XS.aloadN X31.here hx rfl (hb hby d3_55) rfl rfl ?_
        show Steps p.tables e below (T31.setTop (mkF m 56 #[.val (.ref a1), .val (.int (1 : Int32)), .val (.int (1 : Int32)), .val (.ref b25), .val (.int q1), .val (.int (-1 : Int32))] [(.ref b25)])) _
        exact own_retA X31 hx Bd.returns rfl rfl rfl (hb hby d3_56) hr
      · show Q3 Z (1 : Int32) [(.int q0), (.int q1), (.int q2), (.int q3), (.int q4)] h0 n0 _ T31.heap _
        rw [e31]
        exact ⟨_, _, _, _, rfl, N36, KP35, sz_b25, V31, ⟨by decide, by decide⟩, ⟨by decide, by decide⟩, rfl, Or.inr ⟨1, q1, 0, by decide, rfl, ⟨by decide, by decide⟩, rfl, Or.inl ⟨rfl, hc23⟩⟩, Or.inl (by decide), Or.inl (by decide), Or.inl (by decide), Or.inl (by decide)⟩
    · have K40 : ∀ t, Steps p.tables e below (s₁.setTop (mkF m 15 #[.val (.ref a1), .val (.int (1 : Int32)), .val (.int (2 : Int32)), .val (.int (1 : Int32)), .unset, .unset] [(.int (1 : Int32)), (.ref a1)])) t → Steps p.tables e below G t := by
        intro t k
        refine K22 t ?_
        show Steps p.tables e below (s₁.setTop (mkF m 7 #[.val (.ref a1), .val (.int (1 : Int32)), .val (.int (1 : Int32)), .val (.int (1 : Int32)), .unset, .unset] [(.int q1)])) _
        refine XS.ifNo X0.here hx rfl (hb hby d3_7) rfl ((if0 _ _).trans (flt hc23).1) ?_
        refine XS.iinc X0.here hx rfl (hb hby d3_10) rfl (l' := #[.val (.ref a1), .val (.int (1 : Int32)), .val (.int (2 : Int32)), .val (.int (1 : Int32)), .unset, .unset]) rfl ?_
        refine XS.aloadN X0.here hx rfl (hb hby d3_13) rfl rfl ?_
        refine XS.iloadN X0.here hx rfl (hb hby d3_14) rfl ?_
        show Steps p.tables e below (s₁.setTop (mkF m 15 #[.val (.ref a1), .val (.int (1 : Int32)), .val (.int (2 : Int32)), .val (.int (1 : Int32)), .unset, .unset] [(.int (1 : Int32)), (.ref a1)])) _
        exact k
      obtain ⟨cl41, Ar41, qc41, S41, M41, Ha41, Ga41⟩ := id V1
      have hin41 : ¬ ((1 : Int32) < 0 ∨ cl41.slots.size ≤ ((1 : Int32)).toNatClampNeg) := inb_of S41 ⟨by decide, by decide⟩
      have hat41 : cl41.slots[((1 : Int32)).toNatClampNeg]? = some (.int q1) := Ha41.at hin41 rfl
      have K42 : ∀ t, Steps p.tables e below (s₁.setTop (mkF m 16 #[.val (.ref a1), .val (.int (1 : Int32)), .val (.int (2 : Int32)), .val (.int (1 : Int32)), .unset, .unset] [(.int q1)])) t → Steps p.tables e below G t := fun t k => K40 t (X0.iaload hx (j := (1 : Int32)) (v := (.int q1)) (by rw [e0]; exact Ar41.1) (State.isArrayOf_alike hZ.alike Ar41.2.1) Ar41.2.2 hin41 hat41 (g := (mkF m 15 #[.val (.ref a1), .val (.int (1 : Int32)), .val (.int (2 : Int32)), .val (.int (1 : Int32)), .unset, .unset] [(.int (1 : Int32)), (.ref a1)])) rfl rfl (hb hby d3_15) _ k)
      have K43 : ∀ t, Steps p.tables e below (s₁.setTop (mkF m 4 #[.val (.ref a1), .val (.int (1 : Int32)), .val (.int (2 : Int32)), .val (.int q1), .unset, .unset] [])) t → Steps p.tables e below G t := by
        intro t k
        refine K42 t ?_
        show Steps p.tables e below (s₁.setTop (mkF m 16 #[.val (.ref a1), .val (.int (1 : Int32)), .val (.int (2 : Int32)), .val (.int (1 : Int32)), .unset, .unset] [(.int q1)])) _
        refine XS.istoreN X0.here hx rfl (hb hby d3_16) rfl (l' := #[.val (.ref a1), .val (.int (1 : Int32)), .val (.int (2 : Int32)), .val (.int q1), .unset, .unset]) rfl ?_
        refine XS.goto X0.here hx rfl (pc0 := 17) (pc' := 4) rfl (hb hby d3_17) (by decide) (by decide) ?_
        show Steps p.tables e below (s₁.setTop (mkF m 4 #[.val (.ref a1), .val (.int (1 : Int32)), .val (.int (2 : Int32)), .val (.int q1), .unset, .unset] [])) _
        exact k
      obtain rfl := own_lt1 hc23 hq1
      · have K44 : ∀ t, Steps p.tables e below (s₁.setTop (mkF m 6 #[.val (.ref a1), .val (.int (1 : Int32)), .val (.int (2 : Int32)), .val (.int (0 : Int32)), .unset, .unset] [(.int (0 : Int32)), (.ref a1)])) t → Steps p.tables e below G t := by
          intro t k
          refine K43 t ?_
          show Steps p.tables e below (s₁.setTop (mkF m 4 #[.val (.ref a1), .val (.int (1 : Int32)), .val (.int (2 : Int32)), .val (.int (0 : Int32)), .unset, .unset] [])) _
          refine XS.aloadN X0.here hx rfl (hb hby d3_4) rfl rfl ?_
          refine XS.iloadN X0.here hx rfl (hb hby d3_5) rfl ?_
          show Steps p.tables e below (s₁.setTop (mkF m 6 #[.val (.ref a1), .val (.int (1 : Int32)), .val (.int (2 : Int32)), .val (.int (0 : Int32)), .unset, .unset] [(.int (0 : Int32)), (.ref a1)])) _
          exact k
        obtain ⟨cl45, Ar45, qc45, S45, M45, Ha45, Ga45⟩ := id V1
        have hin45 : ¬ ((0 : Int32) < 0 ∨ cl45.slots.size ≤ ((0 : Int32)).toNatClampNeg) := inb_of S45 ⟨by decide, by decide⟩
        have hat45 : cl45.slots[((0 : Int32)).toNatClampNeg]? = some (.int q0) := Ha45.at hin45 rfl
        have K46 : ∀ t, Steps p.tables e below (s₁.setTop (mkF m 7 #[.val (.ref a1), .val (.int (1 : Int32)), .val (.int (2 : Int32)), .val (.int (0 : Int32)), .unset, .unset] [(.int q0)])) t → Steps p.tables e below G t := fun t k => K44 t (X0.iaload hx (j := (0 : Int32)) (v := (.int q0)) (by rw [e0]; exact Ar45.1) (State.isArrayOf_alike hZ.alike Ar45.2.1) Ar45.2.2 hin45 hat45 (g := (mkF m 6 #[.val (.ref a1), .val (.int (1 : Int32)), .val (.int (2 : Int32)), .val (.int (0 : Int32)), .unset, .unset] [(.int (0 : Int32)), (.ref a1)])) rfl rfl (hb hby d3_6) _ k)
        have K47 : ∀ t, Steps p.tables e below (s₁.setTop (mkF m 21 #[.val (.ref a1), .val (.int (1 : Int32)), .val (.int (2 : Int32)), .val (.int (0 : Int32)), .unset, .unset] [(.int (2 : Int32))])) t → Steps p.tables e below G t := by
          intro t k
          refine K46 t ?_
          show Steps p.tables e below (s₁.setTop (mkF m 7 #[.val (.ref a1), .val (.int (1 : Int32)), .val (.int (2 : Int32)), .val (.int (0 : Int32)), .unset, .unset] [(.int q0)])) _
          refine XS.ifYes X0.here hx rfl (pc0 := 7) (pc' := 20) rfl (hb hby d3_7) rfl ((if0 _ _).trans (tlt hq0).1) (by decide) (by decide) ?_
          refine XS.iloadN X0.here hx rfl (hb hby d3_20) rfl ?_
          show Steps p.tables e below (s₁.setTop (mkF m 21 #[.val (.ref a1), .val (.int (1 : Int32)), .val (.int (2 : Int32)), .val (.int (0 : Int32)), .unset, .unset] [(.int (2 : Int32))])) _
          exact k
        obtain ⟨T48, h48, kn48, X48, e48, E48, A48, st48⟩ := newP X0 hx hZ (hw _ (List.mem_of_getElem? (i := 8) rfl)) e0 (g := (mkF m 21 #[.val (.ref a1), .val (.int (1 : Int32)), .val (.int (2 : Int32)), .val (.int (0 : Int32)), .unset, .unset] [(.int (2 : Int32))])) rfl (hb hby d3_21) rfl (by decide) (cap := 2) (by decide) (by decide) (by decide) (by decide)
        obtain ⟨b48, g48⟩ : ∃ z, z = h0.size := ⟨_, rfl⟩
        rw [← g48] at A48 st48
        have ne_a1_b48 : a1 ≠ b48 := Nat.ne_of_lt (Nat.lt_of_lt_of_le V1.lt (Nat.le_of_eq g48.symm))
        have g_b48 : n0 ≤ b48 := Nat.le_trans Z0 (Nat.le_of_eq g48.symm)
        have sz_b48 : h0.size ≤ b48 := Nat.le_trans KP0.1 (Nat.le_of_eq g48.symm)
        have f49 := V1.ext E48
        have Z50 : n0 ≤ h48.size := Nat.le_trans Z0 E48.1
        have KP51 : Keep h0 h48 [] := KP0.ext E48
        have K52 : ∀ t, Steps p.tables e below (T48.setTop (mkF m 23 #[.val (.ref a1), .val (.int (1 : Int32)), .val (.int (2 : Int32)), .val (.int (0 : Int32)), .unset, .unset] [(.ref b48)])) t → Steps p.tables e below G t := fun t k => K47 t (st48 t k)
        have V48 : Arv Z h48 b48 kn48 .int (2 : Int32) [(.int (0 : Int32)), (.int (0 : Int32))] (.int (0 : Int32)) := (Arv.new A48 (by decide)).pad (pad_rep [] (.int (0 : Int32)) 2)
        have K53 : ∀ t, Steps p.tables e below (T48.setTop (mkF m 42 #[.val (.ref a1), .val (.int (1 : Int32)), .val (.int (2 : Int32)), .val (.ref b48), .val (.int (1 : Int32)), .val (.int (1 : Int32))] [(.int (1 : Int32)), (.int (1 : Int32)), (.ref b48)])) t → Steps p.tables e below G t := by
          intro t k
          refine K52 t ?_
          show Steps p.tables e below (T48.setTop (mkF m 23 #[.val (.ref a1), .val (.int (1 : Int32)), .val (.int (2 : Int32)), .val (.int (0 : Int32)), .unset, .unset] [(.ref b48)])) _
          refine XS.astoreN X48.here hx rfl (hb hby d3_23) rfl rfl (l' := #[.val (.ref a1), .val (.int (1 : Int32)), .val (.int (2 : Int32)), .val (.ref b48), .unset, .unset]) rfl ?_
          refine XS.iloadN X48.here hx rfl (hb hby d3_24) rfl ?_
          refine XS.istore X48.here hx rfl (hb hby d3_25) rfl (l' := #[.val (.ref a1), .val (.int (1 : Int32)), .val (.int (2 : Int32)), .val (.ref b48), .val (.int (1 : Int32)), .unset]) rfl ?_
          refine XS.iloadN X48.here hx rfl (hb hby d3_27) rfl ?_
          show Steps p.tables e below (T48.setTop (mkF m 28 #[.val (.ref a1), .val (.int (1 : Int32)), .val (.int (2 : Int32)), .val (.ref b48), .val (.int (1 : Int32)), .unset] [(.int (2 : Int32))])) _
          refine XS.iconst X48.here hx rfl (hb hby d3_28) ?_
          refine XS.isub X48.here hx rfl (hb hby d3_29) rfl ?_
          refine XS.istore X48.here hx rfl (hb hby d3_30) rfl (l' := #[.val (.ref a1), .val (.int (1 : Int32)), .val (.int (2 : Int32)), .val (.ref b48), .val (.int (1 : Int32)), .val (.int (1 : Int32))]) rfl ?_
          refine XS.iload X48.here hx rfl (hb hby d3_32) rfl ?_
          show Steps p.tables e below (T48.setTop (mkF m 34 #[.val (.ref a1), .val (.int (1 : Int32)), .val (.int (2 : Int32)), .val (.ref b48), .val (.int (1 : Int32)), .val (.int (1 : Int32))] [(.int (1 : Int32))])) _
          refine XS.ifNo X48.here hx rfl (hb hby d3_34) rfl ((if0 _ _).trans (flt (by decide)).1) ?_
          refine XS.aloadN X48.here hx rfl (hb hby d3_37) rfl rfl ?_
          refine XS.iload X48.here hx rfl (hb hby d3_38) rfl ?_
          refine XS.iload X48.here hx rfl (hb hby d3_40) rfl ?_
          show Steps p.tables e below (T48.setTop (mkF m 42 #[.val (.ref a1), .val (.int (1 : Int32)), .val (.int (2 : Int32)), .val (.ref b48), .val (.int (1 : Int32)), .val (.int (1 : Int32))] [(.int (1 : Int32)), (.int (1 : Int32)), (.ref b48)])) _
          exact k
        obtain ⟨cl54, Ar54, qc54, S54, M54, Ha54, Ga54⟩ := id V48
        have hin54 : ¬ ((1 : Int32) < 0 ∨ cl54.slots.size ≤ ((1 : Int32)).toNatClampNeg) := inb_of S54 ⟨by decide, by decide⟩
        obtain ⟨T54, h54, X54, e54, W54, st54⟩ := stI X48 hx hZ e48 Ar54 (j := (1 : Int32)) hin54 (g := (mkF m 42 #[.val (.ref a1), .val (.int (1 : Int32)), .val (.int (2 : Int32)), .val (.ref b48), .val (.int (1 : Int32)), .val (.int (1 : Int32))] [(.int (1 : Int32)), (.int (1 : Int32)), (.ref b48)])) rfl rfl (hb hby d3_42)
        have V54 : Arv Z h54 b48 kn48 .int (2 : Int32) [(.int (0 : Int32)), (.int (1 : Int32))] (.int (0 : Int32)) := Arv.set Ar54 qc54 S54 M54 Ha54 Ga54 rfl W54 1 rfl (Nat.le_of_ble_eq_true rfl)
        have K55 : ∀ t, Steps p.tables e below (T54.setTop (mkF m 43 #[.val (.ref a1), .val (.int (1 : Int32)), .val (.int (2 : Int32)), .val (.ref b48), .val (.int (1 : Int32)), .val (.int (1 : Int32))] [])) t → Steps p.tables e below G t := fun t k => K53 t (st54 t k)
        have f56 := f49.other W54 ne_a1_b48
        have Z57 : n0 ≤ h54.size := Nat.le_trans Z50 (Keep.of_wr W54).1
        have KP58 : Keep h0 h54 [] := KP51.wr W54 (Or.inr sz_b48)
        have N59 := Fr.snoc X54 N0 g_b48
        have K60 : ∀ t, Steps p.tables e below (T54.setTop (mkF m 46 #[.val (.ref a1), .val (.int (1 : Int32)), .val (.int (2 : Int32)), .val (.ref b48), .val (.int (1 : Int32)), .val (.int (1 : Int32))] [(.int (1 : Int32)), (.ref a1)])) t → Steps p.tables e below G t := by
          intro t k
          refine K55 t ?_
          show Steps p.tables e below (T54.setTop (mkF m 43 #[.val (.ref a1), .val (.int (1 : Int32)), .val (.int (2 : Int32)), .val (.ref b48), .val (.int (1 : Int32)), .val (.int (1 : Int32))] [])) _
          refine XS.aloadN X54.here hx rfl (hb hby d3_43) rfl rfl ?_
          refine XS.iload X54.here hx rfl (hb hby d3_44) rfl ?_
          show Steps p.tables e below (T54.setTop (mkF m 46 #[.val (.ref a1), .val (.int (1 : Int32)), .val (.int (2 : Int32)), .val (.ref b48), .val (.int (1 : Int32)), .val (.int (1 : Int32))] [(.int (1 : Int32)), (.ref a1)])) _
          exact k
        obtain ⟨cl61, Ar61, qc61, S61, M61, Ha61, Ga61⟩ := id f56
        have hin61 : ¬ ((1 : Int32) < 0 ∨ cl61.slots.size ≤ ((1 : Int32)).toNatClampNeg) := inb_of S61 ⟨by decide, by decide⟩
        have hat61 : cl61.slots[((1 : Int32)).toNatClampNeg]? = some (.int (0 : Int32)) := Ha61.at hin61 rfl
        have K62 : ∀ t, Steps p.tables e below (T54.setTop (mkF m 47 #[.val (.ref a1), .val (.int (1 : Int32)), .val (.int (2 : Int32)), .val (.ref b48), .val (.int (1 : Int32)), .val (.int (1 : Int32))] [(.int (0 : Int32))])) t → Steps p.tables e below G t := fun t k => K60 t (X54.iaload hx (j := (1 : Int32)) (v := (.int (0 : Int32))) (by rw [e54]; exact Ar61.1) (State.isArrayOf_alike hZ.alike Ar61.2.1) Ar61.2.2 hin61 hat61 (g := (mkF m 46 #[.val (.ref a1), .val (.int (1 : Int32)), .val (.int (2 : Int32)), .val (.ref b48), .val (.int (1 : Int32)), .val (.int (1 : Int32))] [(.int (1 : Int32)), (.ref a1)])) rfl rfl (hb hby d3_46) _ k)
        have K63 : ∀ t, Steps p.tables e below (T54.setTop (mkF m 42 #[.val (.ref a1), .val (.int (1 : Int32)), .val (.int (2 : Int32)), .val (.ref b48), .val (.int (0 : Int32)), .val (.int (0 : Int32))] [(.int (0 : Int32)), (.int (0 : Int32)), (.ref b48)])) t → Steps p.tables e below G t := by
          intro t k
          refine K62 t ?_
          show Steps p.tables e below (T54.setTop (mkF m 47 #[.val (.ref a1), .val (.int (1 : Int32)), .val (.int (2 : Int32)), .val (.ref b48), .val (.int (1 : Int32)), .val (.int (1 : Int32))] [(.int (0 : Int32))])) _
          refine XS.istore X54.here hx rfl (hb hby d3_47) rfl (l' := #[.val (.ref a1), .val (.int (1 : Int32)), .val (.int (2 : Int32)), .val (.ref b48), .val (.int (0 : Int32)), .val (.int (1 : Int32))]) rfl ?_
          refine XS.iinc X54.here hx rfl (hb hby d3_49) rfl (l' := #[.val (.ref a1), .val (.int (1 : Int32)), .val (.int (2 : Int32)), .val (.ref b48), .val (.int (0 : Int32)), .val (.int (0 : Int32))]) rfl ?_
          refine XS.goto X54.here hx rfl (pc0 := 52) (pc' := 32) rfl (hb hby d3_52) (by decide) (by decide) ?_
          refine XS.iload X54.here hx rfl (hb hby d3_32) rfl ?_
          show Steps p.tables e below (T54.setTop (mkF m 34 #[.val (.ref a1), .val (.int (1 : Int32)), .val (.int (2 : Int32)), .val (.ref b48), .val (.int (0 : Int32)), .val (.int (0 : Int32))] [(.int (0 : Int32))])) _
          refine XS.ifNo X54.here hx rfl (hb hby d3_34) rfl ((if0 _ _).trans (flt (by decide)).1) ?_
          refine XS.aloadN X54.here hx rfl (hb hby d3_37) rfl rfl ?_
          refine XS.iload X54.here hx rfl (hb hby d3_38) rfl ?_
          refine XS.iload X54.here hx rfl (hb hby d3_40) rfl ?_
          show Steps p.tables e below (T54.setTop (mkF m 42 #[.val (.ref a1), .val (.int (1 : Int32)), .val (.int (2 : Int32)), .val (.ref b48), .val (.int (0 : Int32)), .val (.int (0 : Int32))] [(.int (0 : Int32)), (.int (0 : Int32)), (.ref b48)])) _
          exact k
        obtain ⟨cl64, Ar64, qc64, S64, M64, Ha64, Ga64⟩ := id V54
        have hin64 : ¬ ((0 : Int32) < 0 ∨ cl64.slots.size ≤ ((0 : Int32)).toNatClampNeg) := inb_of S64 ⟨by decide, by decide⟩
        obtain ⟨T64, h64, X64, e64, W64, st64⟩ := stI X54 hx hZ e54 Ar64 (j := (0 : Int32)) hin64 (g := (mkF m 42 #[.val (.ref a1), .val (.int (1 : Int32)), .val (.int (2 : Int32)), .val (.ref b48), .val (.int (0 : Int32)), .val (.int (0 : Int32))] [(.int (0 : Int32)), (.int (0 : Int32)), (.ref b48)])) rfl rfl (hb hby d3_42)
        have V64 : Arv Z h64 b48 kn48 .int (2 : Int32) [(.int (0 : Int32)), (.int (1 : Int32))] (.int (0 : Int32)) := Arv.set Ar64 qc64 S64 M64 Ha64 Ga64 rfl W64 0 rfl (Nat.le_of_ble_eq_true rfl)
        have K65 : ∀ t, Steps p.tables e below (T64.setTop (mkF m 43 #[.val (.ref a1), .val (.int (1 : Int32)), .val (.int (2 : Int32)), .val (.ref b48), .val (.int (0 : Int32)), .val (.int (0 : Int32))] [])) t → Steps p.tables e below G t := fun t k => K63 t (st64 t k)
        have f66 := f56.other W64 ne_a1_b48
        have Z67 : n0 ≤ h64.size := Nat.le_trans Z57 (Keep.of_wr W64).1
        have KP68 : Keep h0 h64 [] := KP58.wr W64 (Or.inr sz_b48)
        have N69 := Fr.snoc X64 N59 g_b48
        have K70 : ∀ t, Steps p.tables e below (T64.setTop (mkF m 46 #[.val (.ref a1), .val (.int (1 : Int32)), .val (.int (2 : Int32)), .val (.ref b48), .val (.int (0 : Int32)), .val (.int (0 : Int32))] [(.int (0 : Int32)), (.ref a1)])) t → Steps p.tables e below G t := by
          intro t k
          refine K65 t ?_
          show Steps p.tables e below (T64.setTop (mkF m 43 #[.val (.ref a1), .val (.int (1 : Int32)), .val (.int (2 : Int32)), .val (.ref b48), .val (.int (0 : Int32)), .val (.int (0 : Int32))] [])) _
          refine XS.aloadN X64.here hx rfl (hb hby d3_43) rfl rfl ?_
          refine XS.iload X64.here hx rfl (hb hby d3_44) rfl ?_
          show Steps p.tables e below (T64.setTop (mkF m 46 #[.val (.ref a1), .val (.int (1 : Int32)), .val (.int (2 : Int32)), .val (.ref b48), .val (.int (0 : Int32)), .val (.int (0 : Int32))] [(.int (0 : Int32)), (.ref a1)])) _
          exact k
        obtain ⟨cl71, Ar71, qc71, S71, M71, Ha71, Ga71⟩ := id f66
        have hin71 : ¬ ((0 : Int32) < 0 ∨ cl71.slots.size ≤ ((0 : Int32)).toNatClampNeg) := inb_of S71 ⟨by decide, by decide⟩
        have hat71 : cl71.slots[((0 : Int32)).toNatClampNeg]? = some (.int q0) := Ha71.at hin71 rfl
        have K72 : ∀ t, Steps p.tables e below (T64.setTop (mkF m 47 #[.val (.ref a1), .val (.int (1 : Int32)), .val (.int (2 : Int32)), .val (.ref b48), .val (.int (0 : Int32)), .val (.int (0 : Int32))] [(.int q0)])) t → Steps p.tables e below G t := fun t k => K70 t (X64.iaload hx (j := (0 : Int32)) (v := (.int q0)) (by rw [e64]; exact Ar71.1) (State.isArrayOf_alike hZ.alike Ar71.2.1) Ar71.2.2 hin71 hat71 (g := (mkF m 46 #[.val (.ref a1), .val (.int (1 : Int32)), .val (.int (2 : Int32)), .val (.ref b48), .val (.int (0 : Int32)), .val (.int (0 : Int32))] [(.int (0 : Int32)), (.ref a1)])) rfl rfl (hb hby d3_46) _ k)
        obtain ⟨fs, hr, hrun, hended, hW, hsame⟩ := X64.leave (v := some (.ref b48)) (fun h => by rw [Bd.returns] at h; cases h)
        have KF := K72
        rw [hG] at KF
        refine ⟨_, _, KF _ ?_, hrun, hended, _, _, rfl, ?_, ⟨_, rfl⟩, hW, hsame.mono (by decide) (by decide)⟩
        · show Steps p.tables e below (T64.setTop (mkF m 47 #[.val (.ref a1), .val (.int (1 : Int32)), .val (.int (2 : Int32)), .val (.ref b48), .val (.int (0 : Int32)), .val (.int (0 : Int32))] [(.int q0)])) _
          refine XS.istore X64.here hx rfl (hb hby d3_47) rfl (l' := #[.val (.ref a1), .val (.int (1 : Int32)), .val (.int (2 : Int32)), .val (.ref b48), .val (.int q0), .val (.int (0 : Int32))]) rfl ?_
          refine XS.iinc X64.here hx rfl (hb hby d3_49) rfl (l' := #[.val (.ref a1), .val (.int (1 : Int32)), .val (.int (2 : Int32)), .val (.ref b48), .val (.int q0), .val (.int (-1 : Int32))]) rfl ?_
          refine XS.goto X64.here hx rfl (pc0 := 52) (pc' := 32) rfl (hb hby d3_52) (by decide) (by decide) ?_
          refine XS.iload X64.here hx rfl (hb hby d3_32) rfl ?_
          show Steps p.tables e below (T64.setTop (mkF m 34 #[.val (.ref a1), .val (.int (1 : Int32)), .val (.int (2 : Int32)), .val (.ref b48), .val (.int q0), .val (.int (-1 : Int32))] [(.int (-1 : Int32))])) _
          refine XS.ifYes X64.here hx rfl (pc0 := 34) (pc' := 55) rfl (hb hby d3_34) rfl ((if0 _ _).trans (tlt (by decide)).1) (by decide) (by decide) ?_
          refine XS.aloadN X64.here hx rfl (hb hby d3_55) rfl rfl ?_
          show Steps p.tables e below (T64.setTop (mkF m 56 #[.val (.ref a1), .val (.int (1 : Int32)), .val (.int (2 : Int32)), .val (.ref b48), .val (.int q0), .val (.int (-1 : Int32))] [(.ref b48)])) _
          exact own_retA X64 hx Bd.returns rfl rfl rfl (hb hby d3_56) hr
        · show Q3 Z (1 : Int32) [(.int q0), (.int (0 : Int32)), (.int q2), (.int q3), (.int q4)] h0 n0 _ T64.heap _
          rw [e64]
          exact ⟨_, _, _, _, rfl, N69, KP68, sz_b48, V64, ⟨by decide, by decide⟩, ⟨by decide, by decide⟩, rfl, Or.inr ⟨0, q0, 0, by decide, rfl, ⟨by decide, by decide⟩, rfl, Or.inl ⟨rfl, hq0⟩⟩, Or.inr ⟨1, 0, 0, by decide, rfl, ⟨by decide, by decide⟩, rfl, Or.inr ⟨by decide, ⟨by decide, by decide⟩, rfl, rfl⟩⟩, Or.inl (by decide), Or.inl (by decide), Or.inl (by decide)⟩
  · have K73 : ∀ t, Steps p.tables e below (s₁.setTop (mkF m 6 #[.val (.ref a1), .val (.int (2 : Int32)), .val (.int (1 : Int32)), .val (.int (2 : Int32)), .unset, .unset] [(.int (2 : Int32)), (.ref a1)])) t → Steps p.tables e below G t := by
      intro t k
      refine pre0 t ?_
      show Steps p.tables e below (s₁.setTop (mkF m 0 #[.val (.ref a1), .val (.int (2 : Int32)), .unset, .unset, .unset, .unset] [])) _
      refine XS.iconst X0.here hx rfl (hb hby d3_0) ?_
      refine XS.istoreN X0.here hx rfl (hb hby d3_1) rfl (l' := #[.val (.ref a1), .val (.int (2 : Int32)), .val (.int (1 : Int32)), .unset, .unset, .unset]) rfl ?_
      refine XS.iloadN X0.here hx rfl (hb hby d3_2) rfl ?_
      refine XS.istoreN X0.here hx rfl (hb hby d3_3) rfl (l' := #[.val (.ref a1), .val (.int (2 : Int32)), .val (.int (1 : Int32)), .val (.int (2 : Int32)), .unset, .unset]) rfl ?_
      show Steps p.tables e below (s₁.setTop (mkF m 4 #[.val (.ref a1), .val (.int (2 : Int32)), .val (.int (1 : Int32)), .val (.int (2 : Int32)), .unset, .unset] [])) _
      refine XS.aloadN X0.here hx rfl (hb hby d3_4) rfl rfl ?_
      refine XS.iloadN X0.here hx rfl (hb hby d3_5) rfl ?_
      show Steps p.tables e below (s₁.setTop (mkF m 6 #[.val (.ref a1), .val (.int (2 : Int32)), .val (.int (1 : Int32)), .val (.int (2 : Int32)), .unset, .unset] [(.int (2 : Int32)), (.ref a1)])) _
      exact k
    obtain ⟨cl74, Ar74, qc74, S74, M74, Ha74, Ga74⟩ := id V1
    have hin74 : ¬ ((2 : Int32) < 0 ∨ cl74.slots.size ≤ ((2 : Int32)).toNatClampNeg) := inb_of S74 ⟨by decide, by decide⟩
    have hat74 : cl74.slots[((2 : Int32)).toNatClampNeg]? = some (.int q2) := Ha74.at hin74 rfl
    have K75 : ∀ t, Steps p.tables e below (s₁.setTop (mkF m 7 #[.val (.ref a1), .val (.int (2 : Int32)), .val (.int (1 : Int32)), .val (.int (2 : Int32)), .unset, .unset] [(.int q2)])) t → Steps p.tables e below G t := fun t k => K73 t (X0.iaload hx (j := (2 : Int32)) (v := (.int q2)) (by rw [e0]; exact Ar74.1) (State.isArrayOf_alike hZ.alike Ar74.2.1) Ar74.2.2 hin74 hat74 (g := (mkF m 6 #[.val (.ref a1), .val (.int (2 : Int32)), .val (.int (1 : Int32)), .val (.int (2 : Int32)), .unset, .unset] [(.int (2 : Int32)), (.ref a1)])) rfl rfl (hb hby d3_6) _ k)
    by_cases hc76 : q2 < (0 : Int32)
    · have K77 : ∀ t, Steps p.tables e below (s₁.setTop (mkF m 21 #[.val (.ref a1), .val (.int (2 : Int32)), .val (.int (1 : Int32)), .val (.int (2 : Int32)), .unset, .unset] [(.int (1 : Int32))])) t → Steps p.tables e below G t := by
        intro t k
        refine K75 t ?_
        show Steps p.tables e below (s₁.setTop (mkF m 7 #[.val (.ref a1), .val (.int (2 : Int32)), .val (.int (1 : Int32)), .val (.int (2 : Int32)), .unset, .unset] [(.int q2)])) _
        refine XS.ifYes X0.here hx rfl (pc0 := 7) (pc' := 20) rfl (hb hby d3_7) rfl ((if0 _ _).trans (tlt hc76).1) (by decide) (by decide) ?_
        refine XS.iloadN X0.here hx rfl (hb hby d3_20) rfl ?_
        show Steps p.tables e below (s₁.setTop (mkF m 21 #[.val (.ref a1), .val (.int (2 : Int32)), .val (.int (1 : Int32)), .val (.int (2 : Int32)), .unset, .unset] [(.int (1 : Int32))])) _
        exact k
      obtain ⟨T78, h78, kn78, X78, e78, E78, A78, st78⟩ := newP X0 hx hZ (hw _ (List.mem_of_getElem? (i := 8) rfl)) e0 (g := (mkF m 21 #[.val (.ref a1), .val (.int (2 : Int32)), .val (.int (1 : Int32)), .val (.int (2 : Int32)), .unset, .unset] [(.int (1 : Int32))])) rfl (hb hby d3_21) rfl (by decide) (cap := 1) (by decide) (by decide) (by decide) (by decide)
      obtain ⟨b78, g78⟩ : ∃ z, z = h0.size := ⟨_, rfl⟩
      rw [← g78] at A78 st78
      have ne_a1_b78 : a1 ≠ b78 := Nat.ne_of_lt (Nat.lt_of_lt_of_le V1.lt (Nat.le_of_eq g78.symm))
      have g_b78 : n0 ≤ b78 := Nat.le_trans Z0 (Nat.le_of_eq g78.symm)
      have sz_b78 : h0.size ≤ b78 := Nat.le_trans KP0.1 (Nat.le_of_eq g78.symm)
      have f79 := V1.ext E78
      have Z80 : n0 ≤ h78.size := Nat.le_trans Z0 E78.1
      have KP81 : Keep h0 h78 [] := KP0.ext E78
      have K82 : ∀ t, Steps p.tables e below (T78.setTop (mkF m 23 #[.val (.ref a1), .val (.int (2 : Int32)), .val (.int (1 : Int32)), .val (.int (2 : Int32)), .unset, .unset] [(.ref b78)])) t → Steps p.tables e below G t := fun t k => K77 t (st78 t k)
      have V78 : Arv Z h78 b78 kn78 .int (1 : Int32) [(.int (0 : Int32))] (.int (0 : Int32)) := (Arv.new A78 (by decide)).pad (pad_rep [] (.int (0 : Int32)) 1)
      have K83 : ∀ t, Steps p.tables e below (T78.setTop (mkF m 42 #[.val (.ref a1), .val (.int (2 : Int32)), .val (.int (1 : Int32)), .val (.ref b78), .val (.int (2 : Int32)), .val (.int (0 : Int32))] [(.int (2 : Int32)), (.int (0 : Int32)), (.ref b78)])) t → Steps p.tables e below G t := by
        intro t k
        refine K82 t ?_
        show Steps p.tables e below (T78.setTop (mkF m 23 #[.val (.ref a1), .val (.int (2 : Int32)), .val (.int (1 : Int32)), .val (.int (2 : Int32)), .unset, .unset] [(.ref b78)])) _
        refine XS.astoreN X78.here hx rfl (hb hby d3_23) rfl rfl (l' := #[.val (.ref a1), .val (.int (2 : Int32)), .val (.int (1 : Int32)), .val (.ref b78), .unset, .unset]) rfl ?_
        refine XS.iloadN X78.here hx rfl (hb hby d3_24) rfl ?_
        refine XS.istore X78.here hx rfl (hb hby d3_25) rfl (l' := #[.val (.ref a1), .val (.int (2 : Int32)), .val (.int (1 : Int32)), .val (.ref b78), .val (.int (2 : Int32)), .unset]) rfl ?_
        refine XS.iloadN X78.here hx rfl (hb hby d3_27) rfl ?_
        show Steps p.tables e below (T78.setTop (mkF m 28 #[.val (.ref a1), .val (.int (2 : Int32)), .val (.int (1 : Int32)), .val (.ref b78), .val (.int (2 : Int32)), .unset] [(.int (1 : Int32))])) _
        refine XS.iconst X78.here hx rfl (hb hby d3_28) ?_
        refine XS.isub X78.here hx rfl (hb hby d3_29) rfl ?_
        refine XS.istore X78.here hx rfl (hb hby d3_30) rfl (l' := #[.val (.ref a1), .val (.int (2 : Int32)), .val (.int (1 : Int32)), .val (.ref b78), .val (.int (2 : Int32)), .val (.int (0 : Int32))]) rfl ?_
        refine XS.iload X78.here hx rfl (hb hby d3_32) rfl ?_
        show Steps p.tables e below (T78.setTop (mkF m 34 #[.val (.ref a1), .val (.int (2 : Int32)), .val (.int (1 : Int32)), .val (.ref b78), .val (.int (2 : Int32)), .val (.int (0 : Int32))] [(.int (0 : Int32))])) _
        refine XS.ifNo X78.here hx rfl (hb hby d3_34) rfl ((if0 _ _).trans (flt (by decide)).1) ?_
        refine XS.aloadN X78.here hx rfl (hb hby d3_37) rfl rfl ?_
        refine XS.iload X78.here hx rfl (hb hby d3_38) rfl ?_
        refine XS.iload X78.here hx rfl (hb hby d3_40) rfl ?_
        show Steps p.tables e below (T78.setTop (mkF m 42 #[.val (.ref a1), .val (.int (2 : Int32)), .val (.int (1 : Int32)), .val (.ref b78), .val (.int (2 : Int32)), .val (.int (0 : Int32))] [(.int (2 : Int32)), (.int (0 : Int32)), (.ref b78)])) _
        exact k
      obtain ⟨cl84, Ar84, qc84, S84, M84, Ha84, Ga84⟩ := id V78
      have hin84 : ¬ ((0 : Int32) < 0 ∨ cl84.slots.size ≤ ((0 : Int32)).toNatClampNeg) := inb_of S84 ⟨by decide, by decide⟩
      obtain ⟨T84, h84, X84, e84, W84, st84⟩ := stI X78 hx hZ e78 Ar84 (j := (0 : Int32)) hin84 (g := (mkF m 42 #[.val (.ref a1), .val (.int (2 : Int32)), .val (.int (1 : Int32)), .val (.ref b78), .val (.int (2 : Int32)), .val (.int (0 : Int32))] [(.int (2 : Int32)), (.int (0 : Int32)), (.ref b78)])) rfl rfl (hb hby d3_42)
      have V84 : Arv Z h84 b78 kn78 .int (1 : Int32) [(.int (2 : Int32))] (.int (0 : Int32)) := Arv.set Ar84 qc84 S84 M84 Ha84 Ga84 rfl W84 0 rfl (Nat.le_of_ble_eq_true rfl)
      have K85 : ∀ t, Steps p.tables e below (T84.setTop (mkF m 43 #[.val (.ref a1), .val (.int (2 : Int32)), .val (.int (1 : Int32)), .val (.ref b78), .val (.int (2 : Int32)), .val (.int (0 : Int32))] [])) t → Steps p.tables e below G t := fun t k => K83 t (st84 t k)
      have f86 := f79.other W84 ne_a1_b78
      have Z87 : n0 ≤ h84.size := Nat.le_trans Z80 (Keep.of_wr W84).1
      have KP88 : Keep h0 h84 [] := KP81.wr W84 (Or.inr sz_b78)
      have N89 := Fr.snoc X84 N0 g_b78
      have K90 : ∀ t, Steps p.tables e below (T84.setTop (mkF m 46 #[.val (.ref a1), .val (.int (2 : Int32)), .val (.int (1 : Int32)), .val (.ref b78), .val (.int (2 : Int32)), .val (.int (0 : Int32))] [(.int (2 : Int32)), (.ref a1)])) t → Steps p.tables e below G t := by
        intro t k
        refine K85 t ?_
        show Steps p.tables e below (T84.setTop (mkF m 43 #[.val (.ref a1), .val (.int (2 : Int32)), .val (.int (1 : Int32)), .val (.ref b78), .val (.int (2 : Int32)), .val (.int (0 : Int32))] [])) _
        refine XS.aloadN X84.here hx rfl (hb hby d3_43) rfl rfl ?_
        refine XS.iload X84.here hx rfl (hb hby d3_44) rfl ?_
        show Steps p.tables e below (T84.setTop (mkF m 46 #[.val (.ref a1), .val (.int (2 : Int32)), .val (.int (1 : Int32)), .val (.ref b78), .val (.int (2 : Int32)), .val (.int (0 : Int32))] [(.int (2 : Int32)), (.ref a1)])) _
        exact k
      obtain ⟨cl91, Ar91, qc91, S91, M91, Ha91, Ga91⟩ := id f86
      have hin91 : ¬ ((2 : Int32) < 0 ∨ cl91.slots.size ≤ ((2 : Int32)).toNatClampNeg) := inb_of S91 ⟨by decide, by decide⟩
      have hat91 : cl91.slots[((2 : Int32)).toNatClampNeg]? = some (.int q2) := Ha91.at hin91 rfl
      have K92 : ∀ t, Steps p.tables e below (T84.setTop (mkF m 47 #[.val (.ref a1), .val (.int (2 : Int32)), .val (.int (1 : Int32)), .val (.ref b78), .val (.int (2 : Int32)), .val (.int (0 : Int32))] [(.int q2)])) t → Steps p.tables e below G t := fun t k => K90 t (X84.iaload hx (j := (2 : Int32)) (v := (.int q2)) (by rw [e84]; exact Ar91.1) (State.isArrayOf_alike hZ.alike Ar91.2.1) Ar91.2.2 hin91 hat91 (g := (mkF m 46 #[.val (.ref a1), .val (.int (2 : Int32)), .val (.int (1 : Int32)), .val (.ref b78), .val (.int (2 : Int32)), .val (.int (0 : Int32))] [(.int (2 : Int32)), (.ref a1)])) rfl rfl (hb hby d3_46) _ k)
      obtain ⟨fs, hr, hrun, hended, hW, hsame⟩ := X84.leave (v := some (.ref b78)) (fun h => by rw [Bd.returns] at h; cases h)
      have KF := K92
      rw [hG] at KF
      refine ⟨_, _, KF _ ?_, hrun, hended, _, _, rfl, ?_, ⟨_, rfl⟩, hW, hsame.mono (by decide) (by decide)⟩
      · show Steps p.tables e below (T84.setTop (mkF m 47 #[.val (.ref a1), .val (.int (2 : Int32)), .val (.int (1 : Int32)), .val (.ref b78), .val (.int (2 : Int32)), .val (.int (0 : Int32))] [(.int q2)])) _
        refine XS.istore X84.here hx rfl (hb hby d3_47) rfl (l' := #[.val (.ref a1), .val (.int (2 : Int32)), .val (.int (1 : Int32)), .val (.ref b78), .val (.int q2), .val (.int (0 : Int32))]) rfl ?_
        refine XS.iinc X84.here hx rfl (hb hby d3_49) rfl (l' := #[.val (.ref a1), .val (.int (2 : Int32)), .val (.int (1 : Int32)), .val (.ref b78), .val (.int q2), .val (.int (-1 : Int32))]) rfl ?_
        refine XS.goto X84.here hx rfl (pc0 := 52) (pc' := 32) rfl (hb hby d3_52) (by decide) (by decide) ?_
        refine XS.iload X84.here hx rfl (hb hby d3_32) rfl ?_
        show Steps p.tables e below (T84.setTop (mkF m 34 #[.val (.ref a1), .val (.int (2 : Int32)), .val (.int (1 : Int32)), .val (.ref b78), .val (.int q2), .val (.int (-1 : Int32))] [(.int (-1 : Int32))])) _
        refine XS.ifYes X84.here hx rfl (pc0 := 34) (pc' := 55) rfl (hb hby d3_34) rfl ((if0 _ _).trans (tlt (by decide)).1) (by decide) (by decide) ?_
        refine XS.aloadN X84.here hx rfl (hb hby d3_55) rfl rfl ?_
        show Steps p.tables e below (T84.setTop (mkF m 56 #[.val (.ref a1), .val (.int (2 : Int32)), .val (.int (1 : Int32)), .val (.ref b78), .val (.int q2), .val (.int (-1 : Int32))] [(.ref b78)])) _
        exact own_retA X84 hx Bd.returns rfl rfl rfl (hb hby d3_56) hr
      · show Q3 Z (2 : Int32) [(.int q0), (.int q1), (.int q2), (.int q3), (.int q4)] h0 n0 _ T84.heap _
        rw [e84]
        exact ⟨_, _, _, _, rfl, N89, KP88, sz_b78, V84, ⟨by decide, by decide⟩, ⟨by decide, by decide⟩, rfl, Or.inr ⟨2, q2, 0, by decide, rfl, ⟨by decide, by decide⟩, rfl, Or.inl ⟨rfl, hc76⟩⟩, Or.inl (by decide), Or.inl (by decide), Or.inl (by decide), Or.inl (by decide)⟩
    · have K93 : ∀ t, Steps p.tables e below (s₁.setTop (mkF m 15 #[.val (.ref a1), .val (.int (2 : Int32)), .val (.int (2 : Int32)), .val (.int (2 : Int32)), .unset, .unset] [(.int (2 : Int32)), (.ref a1)])) t → Steps p.tables e below G t := by
        intro t k
        refine K75 t ?_
        show Steps p.tables e below (s₁.setTop (mkF m 7 #[.val (.ref a1), .val (.int (2 : Int32)), .val (.int (1 : Int32)), .val (.int (2 : Int32)), .unset, .unset] [(.int q2)])) _
        refine XS.ifNo X0.here hx rfl (hb hby d3_7) rfl ((if0 _ _).trans (flt hc76).1) ?_
        refine XS.iinc X0.here hx rfl (hb hby d3_10) rfl (l' := #[.val (.ref a1), .val (.int (2 : Int32)), .val (.int (2 : Int32)), .val (.int (2 : Int32)), .unset, .unset]) rfl ?_
        refine XS.aloadN X0.here hx rfl (hb hby d3_13) rfl rfl ?_
        refine XS.iloadN X0.here hx rfl (hb hby d3_14) rfl ?_
        show Steps p.tables e below (s₁.setTop (mkF m 15 #[.val (.ref a1), .val (.int (2 : Int32)), .val (.int (2 : Int32)), .val (.int (2 : Int32)), .unset, .unset] [(.int (2 : Int32)), (.ref a1)])) _
        exact k
      obtain ⟨cl94, Ar94, qc94, S94, M94, Ha94, Ga94⟩ := id V1
      have hin94 : ¬ ((2 : Int32) < 0 ∨ cl94.slots.size ≤ ((2 : Int32)).toNatClampNeg) := inb_of S94 ⟨by decide, by decide⟩
      have hat94 : cl94.slots[((2 : Int32)).toNatClampNeg]? = some (.int q2) := Ha94.at hin94 rfl
      have K95 : ∀ t, Steps p.tables e below (s₁.setTop (mkF m 16 #[.val (.ref a1), .val (.int (2 : Int32)), .val (.int (2 : Int32)), .val (.int (2 : Int32)), .unset, .unset] [(.int q2)])) t → Steps p.tables e below G t := fun t k => K93 t (X0.iaload hx (j := (2 : Int32)) (v := (.int q2)) (by rw [e0]; exact Ar94.1) (State.isArrayOf_alike hZ.alike Ar94.2.1) Ar94.2.2 hin94 hat94 (g := (mkF m 15 #[.val (.ref a1), .val (.int (2 : Int32)), .val (.int (2 : Int32)), .val (.int (2 : Int32)), .unset, .unset] [(.int (2 : Int32)), (.ref a1)])) rfl rfl (hb hby d3_15) _ k)
      have K96 : ∀ t, Steps p.tables e below (s₁.setTop (mkF m 4 #[.val (.ref a1), .val (.int (2 : Int32)), .val (.int (2 : Int32)), .val (.int q2), .unset, .unset] [])) t → Steps p.tables e below G t := by
        intro t k
        refine K95 t ?_
        show Steps p.tables e below (s₁.setTop (mkF m 16 #[.val (.ref a1), .val (.int (2 : Int32)), .val (.int (2 : Int32)), .val (.int (2 : Int32)), .unset, .unset] [(.int q2)])) _
        refine XS.istoreN X0.here hx rfl (hb hby d3_16) rfl (l' := #[.val (.ref a1), .val (.int (2 : Int32)), .val (.int (2 : Int32)), .val (.int q2), .unset, .unset]) rfl ?_
        refine XS.goto X0.here hx rfl (pc0 := 17) (pc' := 4) rfl (hb hby d3_17) (by decide) (by decide) ?_
        show Steps p.tables e below (s₁.setTop (mkF m 4 #[.val (.ref a1), .val (.int (2 : Int32)), .val (.int (2 : Int32)), .val (.int q2), .unset, .unset] [])) _
        exact k
      rcases own_lt2 hc76 hq2 with rfl | rfl
      · have K97 : ∀ t, Steps p.tables e below (s₁.setTop (mkF m 6 #[.val (.ref a1), .val (.int (2 : Int32)), .val (.int (2 : Int32)), .val (.int (0 : Int32)), .unset, .unset] [(.int (0 : Int32)), (.ref a1)])) t → Steps p.tables e below G t := by
          intro t k
          refine K96 t ?_
          show Steps p.tables e below (s₁.setTop (mkF m 4 #[.val (.ref a1), .val (.int (2 : Int32)), .val (.int (2 : Int32)), .val (.int (0 : Int32)), .unset, .unset] [])) _
          refine XS.aloadN X0.here hx rfl (hb hby d3_4) rfl rfl ?_
          refine XS.iloadN X0.here hx rfl (hb hby d3_5) rfl ?_
          show Steps p.tables e below (s₁.setTop (mkF m 6 #[.val (.ref a1), .val (.int (2 : Int32)), .val (.int (2 : Int32)), .val (.int (0 : Int32)), .unset, .unset] [(.int (0 : Int32)), (.ref a1)])) _
          exact k
        obtain ⟨cl98, Ar98, qc98, S98, M98, Ha98, Ga98⟩ := id V1
        have hin98 : ¬ ((0 : Int32) < 0 ∨ cl98.slots.size ≤ ((0 : Int32)).toNatClampNeg) := inb_of S98 ⟨by decide, by decide⟩
        have hat98 : cl98.slots[((0 : Int32)).toNatClampNeg]? = some (.int q0) := Ha98.at hin98 rfl
        have K99 : ∀ t, Steps p.tables e below (s₁.setTop (mkF m 7 #[.val (.ref a1), .val (.int (2 : Int32)), .val (.int (2 : Int32)), .val (.int (0 : Int32)), .unset, .unset] [(.int q0)])) t → Steps p.tables e below G t := fun t k => K97 t (X0.iaload hx (j := (0 : Int32)) (v := (.int q0)) (by rw [e0]; exact Ar98.1) (State.isArrayOf_alike hZ.alike Ar98.2.1) Ar98.2.2 hin98 hat98 (g := (mkF m 6 #[.val (.ref a1), .val (.int (2 : Int32)), .val (.int (2 : Int32)), .val (.int (0 : Int32)), .unset, .unset] [(.int (0 : Int32)), (.ref a1)])) rfl rfl (hb hby d3_6) _ k)
        have K100 : ∀ t, Steps p.tables e below (s₁.setTop (mkF m 21 #[.val (.ref a1), .val (.int (2 : Int32)), .val (.int (2 : Int32)), .val (.int (0 : Int32)), .unset, .unset] [(.int (2 : Int32))])) t → Steps p.tables e below G t := by
          intro t k
          refine K99 t ?_
          show Steps p.tables e below (s₁.setTop (mkF m 7 #[.val (.ref a1), .val (.int (2 : Int32)), .val (.int (2 : Int32)), .val (.int (0 : Int32)), .unset, .unset] [(.int q0)])) _
          refine XS.ifYes X0.here hx rfl (pc0 := 7) (pc' := 20) rfl (hb hby d3_7) rfl ((if0 _ _).trans (tlt hq0).1) (by decide) (by decide) ?_
          refine XS.iloadN X0.here hx rfl (hb hby d3_20) rfl ?_
          show Steps p.tables e below (s₁.setTop (mkF m 21 #[.val (.ref a1), .val (.int (2 : Int32)), .val (.int (2 : Int32)), .val (.int (0 : Int32)), .unset, .unset] [(.int (2 : Int32))])) _
          exact k
        obtain ⟨T101, h101, kn101, X101, e101, E101, A101, st101⟩ := newP X0 hx hZ (hw _ (List.mem_of_getElem? (i := 8) rfl)) e0 (g := (mkF m 21 #[.val (.ref a1), .val (.int (2 : Int32)), .val (.int (2 : Int32)), .val (.int (0 : Int32)), .unset, .unset] [(.int (2 : Int32))])) rfl (hb hby d3_21) rfl (by decide) (cap := 2) (by decide) (by decide) (by decide) (by decide)
        obtain ⟨b101, g101⟩ : ∃ z, z = h0.size := ⟨_, rfl⟩
        rw [← g101] at A101 st101
        have ne_a1_b101 : a1 ≠ b101 := Nat.ne_of_lt (Nat.lt_of_lt_of_le V1.lt (Nat.le_of_eq g101.symm))
        have g_b101 : n0 ≤ b101 := Nat.le_trans Z0 (Nat.le_of_eq g101.symm)
        have sz_b101 : h0.size ≤ b101 := Nat.le_trans KP0.1 (Nat.le_of_eq g101.symm)
        have f102 := V1.ext E101
        have Z103 : n0 ≤ h101.size := Nat.le_trans Z0 E101.1
        have KP104 : Keep h0 h101 [] := KP0.ext E101
        have K105 : ∀ t, Steps p.tables e below (T101.setTop (mkF m 23 #[.val (.ref a1), .val (.int (2 : Int32)), .val (.int (2 : Int32)), .val (.int (0 : Int32)), .unset, .unset] [(.ref b101)])) t → Steps p.tables e below G t := fun t k => K100 t (st101 t k)
        have V101 : Arv Z h101 b101 kn101 .int (2 : Int32) [(.int (0 : Int32)), (.int (0 : Int32))] (.int (0 : Int32)) := (Arv.new A101 (by decide)).pad (pad_rep [] (.int (0 : Int32)) 2)
        have K106 : ∀ t, Steps p.tables e below (T101.setTop (mkF m 42 #[.val (.ref a1), .val (.int (2 : Int32)), .val (.int (2 : Int32)), .val (.ref b101), .val (.int (2 : Int32)), .val (.int (1 : Int32))] [(.int (2 : Int32)), (.int (1 : Int32)), (.ref b101)])) t → Steps p.tables e below G t := by
          intro t k
          refine K105 t ?_
          show Steps p.tables e below (T101.setTop (mkF m 23 #[.val (.ref a1), .val (.int (2 : Int32)), .val (.int (2 : Int32)), .val (.int (0 : Int32)), .unset, .unset] [(.ref b101)])) _
          refine XS.astoreN X101.here hx rfl (hb hby d3_23) rfl rfl (l' := #[.val (.ref a1), .val (.int (2 : Int32)), .val (.int (2 : Int32)), .val (.ref b101), .unset, .unset]) rfl ?_
          refine XS.iloadN X101.here hx rfl (hb hby d3_24) rfl ?_
          refine XS.istore X101.here hx rfl (hb hby d3_25) rfl (l' := #[.val (.ref a1), .val (.int (2 : Int32)), .val (.int (2 : Int32)), .val (.ref b101), .val (.int (2 : Int32)), .unset]) rfl ?_
          refine XS.iloadN X101.here hx rfl (hb hby d3_27) rfl ?_
          show Steps p.tables e below (T101.setTop (mkF m 28 #[.val (.ref a1), .val (.int (2 : Int32)), .val (.int (2 : Int32)), .val (.ref b101), .val (.int (2 : Int32)), .unset] [(.int (2 : Int32))])) _
          refine XS.iconst X101.here hx rfl (hb hby d3_28) ?_
          refine XS.isub X101.here hx rfl (hb hby d3_29) rfl ?_
          refine XS.istore X101.here hx rfl (hb hby d3_30) rfl (l' := #[.val (.ref a1), .val (.int (2 : Int32)), .val (.int (2 : Int32)), .val (.ref b101), .val (.int (2 : Int32)), .val (.int (1 : Int32))]) rfl ?_
          refine XS.iload X101.here hx rfl (hb hby d3_32) rfl ?_
          show Steps p.tables e below (T101.setTop (mkF m 34 #[.val (.ref a1), .val (.int (2 : Int32)), .val (.int (2 : Int32)), .val (.ref b101), .val (.int (2 : Int32)), .val (.int (1 : Int32))] [(.int (1 : Int32))])) _
          refine XS.ifNo X101.here hx rfl (hb hby d3_34) rfl ((if0 _ _).trans (flt (by decide)).1) ?_
          refine XS.aloadN X101.here hx rfl (hb hby d3_37) rfl rfl ?_
          refine XS.iload X101.here hx rfl (hb hby d3_38) rfl ?_
          refine XS.iload X101.here hx rfl (hb hby d3_40) rfl ?_
          show Steps p.tables e below (T101.setTop (mkF m 42 #[.val (.ref a1), .val (.int (2 : Int32)), .val (.int (2 : Int32)), .val (.ref b101), .val (.int (2 : Int32)), .val (.int (1 : Int32))] [(.int (2 : Int32)), (.int (1 : Int32)), (.ref b101)])) _
          exact k
        obtain ⟨cl107, Ar107, qc107, S107, M107, Ha107, Ga107⟩ := id V101
        have hin107 : ¬ ((1 : Int32) < 0 ∨ cl107.slots.size ≤ ((1 : Int32)).toNatClampNeg) := inb_of S107 ⟨by decide, by decide⟩
        obtain ⟨T107, h107, X107, e107, W107, st107⟩ := stI X101 hx hZ e101 Ar107 (j := (1 : Int32)) hin107 (g := (mkF m 42 #[.val (.ref a1), .val (.int (2 : Int32)), .val (.int (2 : Int32)), .val (.ref b101), .val (.int (2 : Int32)), .val (.int (1 : Int32))] [(.int (2 : Int32)), (.int (1 : Int32)), (.ref b101)])) rfl rfl (hb hby d3_42)
        have V107 : Arv Z h107 b101 kn101 .int (2 : Int32) [(.int (0 : Int32)), (.int (2 : Int32))] (.int (0 : Int32)) := Arv.set Ar107 qc107 S107 M107 Ha107 Ga107 rfl W107 1 rfl (Nat.le_of_ble_eq_true rfl)
        have K108 : ∀ t, Steps p.tables e below (T107.setTop (mkF m 43 #[.val (.ref a1), .val (.int (2 : Int32)), .val (.int (2 : Int32)), .val (.ref b101), .val (.int (2 : Int32)), .val (.int (1 : Int32))] [])) t → Steps p.tables e below G t := fun t k => K106 t (st107 t k)
        have f109 := f102.other W107 ne_a1_b101
        have Z110 : n0 ≤ h107.size := Nat.le_trans Z103 (Keep.of_wr W107).1
        have KP111 : Keep h0 h107 [] := KP104.wr W107 (Or.inr sz_b101)
        have N112 := Fr.snoc X107 N0 g_b101
        have K113 : ∀ t, Steps p.tables e below (T107.setTop (mkF m 46 #[.val (.ref a1), .val (.int (2 : Int32)), .val (.int (2 : Int32)), .val (.ref b101), .val (.int (2 : Int32)), .val (.int (1 : Int32))] [(.int (2 : Int32)), (.ref a1)])) t → Steps p.tables e below G t := by
          intro t k
          refine K108 t ?_
          show Steps p.tables e below (T107.setTop (mkF m 43 #[.val (.ref a1), .val (.int (2 : Int32)), .val (.int (2 : Int32)), .val (.ref b101), .val (.int (2 : Int32)), .val (.int (1 : Int32))] [])) _
          refine XS.aloadN X107.here hx rfl (hb hby d3_43) rfl rfl ?_
          refine XS.iload X107.here hx rfl (hb hby d3_44) rfl ?_
          show Steps p.tables e below (T107.setTop (mkF m 46 #[.val (.ref a1), .val (.int (2 : Int32)), .val (.int (2 : Int32)), .val (.ref b101), .val (.int (2 : Int32)), .val (.int (1 : Int32))] [(.int (2 : Int32)), (.ref a1)])) _
          exact k
        obtain ⟨cl114, Ar114, qc114, S114, M114, Ha114, Ga114⟩ := id f109
        have hin114 : ¬ ((2 : Int32) < 0 ∨ cl114.slots.size ≤ ((2 : Int32)).toNatClampNeg) := inb_of S114 ⟨by decide, by decide⟩
        have hat114 : cl114.slots[((2 : Int32)).toNatClampNeg]? = some (.int (0 : Int32)) := Ha114.at hin114 rfl
        have K115 : ∀ t, Steps p.tables e below (T107.setTop (mkF m 47 #[.val (.ref a1), .val (.int (2 : Int32)), .val (.int (2 : Int32)), .val (.ref b101), .val (.int (2 : Int32)), .val (.int (1 : Int32))] [(.int (0 : Int32))])) t → Steps p.tables e below G t := fun t k => K113 t (X107.iaload hx (j := (2 : Int32)) (v := (.int (0 : Int32))) (by rw [e107]; exact Ar114.1) (State.isArrayOf_alike hZ.alike Ar114.2.1) Ar114.2.2 hin114 hat114 (g := (mkF m 46 #[.val (.ref a1), .val (.int (2 : Int32)), .val (.int (2 : Int32)), .val (.ref b101), .val (.int (2 : Int32)), .val (.int (1 : Int32))] [(.int (2 : Int32)), (.ref a1)])) rfl rfl (hb hby d3_46) _ k)
        have K116 : ∀ t, Steps p.tables e below (T107.setTop (mkF m 42 #[.val (.ref a1), .val (.int (2 : Int32)), .val (.int (2 : Int32)), .val (.ref b101), .val (.int (0 : Int32)), .val (.int (0 : Int32))] [(.int (0 : Int32)), (.int (0 : Int32)), (.ref b101)])) t → Steps p.tables e below G t := by
          intro t k
          refine K115 t ?_
          show Steps p.tables e below (T107.setTop (mkF m 47 #[.val (.ref a1), .val (.int (2 : Int32)), .val (.int (2 : Int32)), .val (.ref b101), .val (.int (2 : Int32)), .val (.int (1 : Int32))] [(.int (0 : Int32))])) _
          refine XS.istore X107.here hx rfl (hb hby d3_47) rfl (l' := #[.val (.ref a1), .val (.int (2 : Int32)), .val (.int (2 : Int32)), .val (.ref b101), .val (.int (0 : Int32)), .val (.int (1 : Int32))]) rfl ?_
          refine XS.iinc X107.here hx rfl (hb hby d3_49) rfl (l' := #[.val (.ref a1), .val (.int (2 : Int32)), .val (.int (2 : Int32)), .val (.ref b101), .val (.int (0 : Int32)), .val (.int (0 : Int32))]) rfl ?_
          refine XS.goto X107.here hx rfl (pc0 := 52) (pc' := 32) rfl (hb hby d3_52) (by decide) (by decide) ?_
          refine XS.iload X107.here hx rfl (hb hby d3_32) rfl ?_
          show Steps p.tables e below (T107.setTop (mkF m 34 #[.val (.ref a1), .val (.int (2 : Int32)), .val (.int (2 : Int32)), .val (.ref b101), .val (.int (0 : Int32)), .val (.int (0 : Int32))] [(.int (0 : Int32))])) _
          refine XS.ifNo X107.here hx rfl (hb hby d3_34) rfl ((if0 _ _).trans (flt (by decide)).1) ?_
          refine XS.aloadN X107.here hx rfl (hb hby d3_37) rfl rfl ?_
          refine XS.iload X107.here hx rfl (hb hby d3_38) rfl ?_
          refine XS.iload X107.here hx rfl (hb hby d3_40) rfl ?_
          show Steps p.tables e below (T107.setTop (mkF m 42 #[.val (.ref a1), .val (.int (2 : Int32)), .val (.int (2 : Int32)), .val (.ref b101), .val (.int (0 : Int32)), .val (.int (0 : Int32))] [(.int (0 : Int32)), (.int (0 : Int32)), (.ref b101)])) _
          exact k
        obtain ⟨cl117, Ar117, qc117, S117, M117, Ha117, Ga117⟩ := id V107
        have hin117 : ¬ ((0 : Int32) < 0 ∨ cl117.slots.size ≤ ((0 : Int32)).toNatClampNeg) := inb_of S117 ⟨by decide, by decide⟩
        obtain ⟨T117, h117, X117, e117, W117, st117⟩ := stI X107 hx hZ e107 Ar117 (j := (0 : Int32)) hin117 (g := (mkF m 42 #[.val (.ref a1), .val (.int (2 : Int32)), .val (.int (2 : Int32)), .val (.ref b101), .val (.int (0 : Int32)), .val (.int (0 : Int32))] [(.int (0 : Int32)), (.int (0 : Int32)), (.ref b101)])) rfl rfl (hb hby d3_42)
        have V117 : Arv Z h117 b101 kn101 .int (2 : Int32) [(.int (0 : Int32)), (.int (2 : Int32))] (.int (0 : Int32)) := Arv.set Ar117 qc117 S117 M117 Ha117 Ga117 rfl W117 0 rfl (Nat.le_of_ble_eq_true rfl)
        have K118 : ∀ t, Steps p.tables e below (T117.setTop (mkF m 43 #[.val (.ref a1), .val (.int (2 : Int32)), .val (.int (2 : Int32)), .val (.ref b101), .val (.int (0 : Int32)), .val (.int (0 : Int32))] [])) t → Steps p.tables e below G t := fun t k => K116 t (st117 t k)
        have f119 := f109.other W117 ne_a1_b101
        have Z120 : n0 ≤ h117.size := Nat.le_trans Z110 (Keep.of_wr W117).1
        have KP121 : Keep h0 h117 [] := KP111.wr W117 (Or.inr sz_b101)
        have N122 := Fr.snoc X117 N112 g_b101
        have K123 : ∀ t, Steps p.tables e below (T117.setTop (mkF m 46 #[.val (.ref a1), .val (.int (2 : Int32)), .val (.int (2 : Int32)), .val (.ref b101), .val (.int (0 : Int32)), .val (.int (0 : Int32))] [(.int (0 : Int32)), (.ref a1)])) t → Steps p.tables e below G t := by
          intro t k
          refine K118 t ?_
          show Steps p.tables e below (T117.setTop (mkF m 43 #[.val (.ref a1), .val (.int (2 : Int32)), .val (.int (2 : Int32)), .val (.ref b101), .val (.int (0 : Int32)), .val (.int (0 : Int32))] [])) _
          refine XS.aloadN X117.here hx rfl (hb hby d3_43) rfl rfl ?_
          refine XS.iload X117.here hx rfl (hb hby d3_44) rfl ?_
          show Steps p.tables e below (T117.setTop (mkF m 46 #[.val (.ref a1), .val (.int (2 : Int32)), .val (.int (2 : Int32)), .val (.ref b101), .val (.int (0 : Int32)), .val (.int (0 : Int32))] [(.int (0 : Int32)), (.ref a1)])) _
          exact k
        obtain ⟨cl124, Ar124, qc124, S124, M124, Ha124, Ga124⟩ := id f119
        have hin124 : ¬ ((0 : Int32) < 0 ∨ cl124.slots.size ≤ ((0 : Int32)).toNatClampNeg) := inb_of S124 ⟨by decide, by decide⟩
        have hat124 : cl124.slots[((0 : Int32)).toNatClampNeg]? = some (.int q0) := Ha124.at hin124 rfl
        have K125 : ∀ t, Steps p.tables e below (T117.setTop (mkF m 47 #[.val (.ref a1), .val (.int (2 : Int32)), .val (.int (2 : Int32)), .val (.ref b101), .val (.int (0 : Int32)), .val (.int (0 : Int32))] [(.int q0)])) t → Steps p.tables e below G t := fun t k => K123 t (X117.iaload hx (j := (0 : Int32)) (v := (.int q0)) (by rw [e117]; exact Ar124.1) (State.isArrayOf_alike hZ.alike Ar124.2.1) Ar124.2.2 hin124 hat124 (g := (mkF m 46 #[.val (.ref a1), .val (.int (2 : Int32)), .val (.int (2 : Int32)), .val (.ref b101), .val (.int (0 : Int32)), .val (.int (0 : Int32))] [(.int (0 : Int32)), (.ref a1)])) rfl rfl (hb hby d3_46) _ k)
        obtain ⟨fs, hr, hrun, hended, hW, hsame⟩ := X117.leave (v := some (.ref b101)) (fun h => by rw [Bd.returns] at h; cases h)
        have KF := K125
        rw [hG] at KF
        refine ⟨_, _, KF _ ?_, hrun, hended, _, _, rfl, ?_, ⟨_, rfl⟩, hW, hsame.mono (by decide) (by decide)⟩
        · show Steps p.tables e below (T117.setTop (mkF m 47 #[.val (.ref a1), .val (.int (2 : Int32)), .val (.int (2 : Int32)), .val (.ref b101), .val (.int (0 : Int32)), .val (.int (0 : Int32))] [(.int q0)])) _
          refine XS.istore X117.here hx rfl (hb hby d3_47) rfl (l' := #[.val (.ref a1), .val (.int (2 : Int32)), .val (.int (2 : Int32)), .val (.ref b101), .val (.int q0), .val (.int (0 : Int32))]) rfl ?_
          refine XS.iinc X117.here hx rfl (hb hby d3_49) rfl (l' := #[.val (.ref a1), .val (.int (2 : Int32)), .val (.int (2 : Int32)), .val (.ref b101), .val (.int q0), .val (.int (-1 : Int32))]) rfl ?_
          refine XS.goto X117.here hx rfl (pc0 := 52) (pc' := 32) rfl (hb hby d3_52) (by decide) (by decide) ?_
          refine XS.iload X117.here hx rfl (hb hby d3_32) rfl ?_
          show Steps p.tables e below (T117.setTop (mkF m 34 #[.val (.ref a1), .val (.int (2 : Int32)), .val (.int (2 : Int32)), .val (.ref b101), .val (.int q0), .val (.int (-1 : Int32))] [(.int (-1 : Int32))])) _
          refine XS.ifYes X117.here hx rfl (pc0 := 34) (pc' := 55) rfl (hb hby d3_34) rfl ((if0 _ _).trans (tlt (by decide)).1) (by decide) (by decide) ?_
          refine XS.aloadN X117.here hx rfl (hb hby d3_55) rfl rfl ?_
          show Steps p.tables e below (T117.setTop (mkF m 56 #[.val (.ref a1), .val (.int (2 : Int32)), .val (.int (2 : Int32)), .val (.ref b101), .val (.int q0), .val (.int (-1 : Int32))] [(.ref b101)])) _
          exact own_retA X117 hx Bd.returns rfl rfl rfl (hb hby d3_56) hr
        · show Q3 Z (2 : Int32) [(.int q0), (.int q1), (.int (0 : Int32)), (.int q3), (.int q4)] h0 n0 _ T117.heap _
          rw [e117]
          exact ⟨_, _, _, _, rfl, N122, KP121, sz_b101, V117, ⟨by decide, by decide⟩, ⟨by decide, by decide⟩, rfl, Or.inr ⟨0, q0, 0, by decide, rfl, ⟨by decide, by decide⟩, rfl, Or.inl ⟨rfl, hq0⟩⟩, Or.inr ⟨2, 0, 0, by decide, rfl, ⟨by decide, by decide⟩, rfl, Or.inr ⟨by decide, ⟨by decide, by decide⟩, rfl, rfl⟩⟩, Or.inl (by decide), Or.inl (by decide), Or.inl (by decide)⟩
      · have K126 : ∀ t, Steps p.tables e below (s₁.setTop (mkF m 6 #[.val (.ref a1), .val (.int (2 : Int32)), .val (.int (2 : Int32)), .val (.int (1 : Int32)), .unset, .unset] [(.int (1 : Int32)), (.ref a1)])) t → Steps p.tables e below G t := by
          intro t k
          refine K96 t ?_
          show Steps p.tables e below (s₁.setTop (mkF m 4 #[.val (.ref a1), .val (.int (2 : Int32)), .val (.int (2 : Int32)), .val (.int (1 : Int32)), .unset, .unset] [])) _
          refine XS.aloadN X0.here hx rfl (hb hby d3_4) rfl rfl ?_
          refine XS.iloadN X0.here hx rfl (hb hby d3_5) rfl ?_
          show Steps p.tables e below (s₁.setTop (mkF m 6 #[.val (.ref a1), .val (.int (2 : Int32)), .val (.int (2 : Int32)), .val (.int (1 : Int32)), .unset, .unset] [(.int (1 : Int32)), (.ref a1)])) _
          exact k
        obtain ⟨cl127, Ar127, qc127, S127, M127, Ha127, Ga127⟩ := id V1
        have hin127 : ¬ ((1 : Int32) < 0 ∨ cl127.slots.size ≤ ((1 : Int32)).toNatClampNeg) := inb_of S127 ⟨by decide, by decide⟩
        have hat127 : cl127.slots[((1 : Int32)).toNatClampNeg]? = some (.int q1) := Ha127.at hin127 rfl
        have K128 : ∀ t, Steps p.tables e below (s₁.setTop (mkF m 7 #[.val (.ref a1), .val (.int (2 : Int32)), .val (.int (2 : Int32)), .val (.int (1 : Int32)), .unset, .unset] [(.int q1)])) t → Steps p.tables e below G t := fun t k => K126 t (X0.iaload hx (j := (1 : Int32)) (v := (.int q1)) (by rw [e0]; exact Ar127.1) (State.isArrayOf_alike hZ.alike Ar127.2.1) Ar127.2.2 hin127 hat127 (g := (mkF m 6 #[.val (.ref a1), .val (.int (2 : Int32)), .val (.int (2 : Int32)), .val (.int (1 : Int32)), .unset, .unset] [(.int (1 : Int32)), (.ref a1)])) rfl rfl (hb hby d3_6) _ k)
        by_cases hc129 : q1 < (0 : Int32)
        · have K130 : ∀ t, Steps p.tables e below (s₁.setTop (mkF m 21 #[.val (.ref a1), .val (.int (2 : Int32)), .val (.int (2 : Int32)), .val (.int (1 : Int32)), .unset, .unset] [(.int (2 : Int32))])) t → Steps p.tables e below G t := by
            intro t k
            refine K128 t ?_
            show Steps p.tables e below (s₁.setTop (mkF m 7 #[.val (.ref a1), .val (.int (2 : Int32)), .val (.int (2 : Int32)), .val (.int (1 : Int32)), .unset, .unset] [(.int q1)])) _
            refine XS.ifYes X0.here hx rfl (pc0 := 7) (pc' := 20) rfl (hb hby d3_7) rfl ((if0 _ _).trans (tlt hc129).1) (by decide) (by decide) ?_
            refine XS.iloadN X0.here hx rfl (hb hby d3_20) rfl ?_
            show Steps p.tables e below (s₁.setTop (mkF m 21 #[.val (.ref a1), .val (.int (2 : Int32)), .val (.int (2 : Int32)), .val (.int (1 : Int32)), .unset, .unset] [(.int (2 : Int32))])) _
            exact k
          obtain ⟨T131, h131, kn131, X131, e131, E131, A131, st131⟩ := newP X0 hx hZ (hw _ (List.mem_of_getElem? (i := 8) rfl)) e0 (g := (mkF m 21 #[.val (.ref a1), .val (.int (2 : Int32)), .val (.int (2 : Int32)), .val (.int (1 : Int32)), .unset, .unset] [(.int (2 : Int32))])) rfl (hb hby d3_21) rfl (by decide) (cap := 2) (by decide) (by decide) (by decide) (by decide)
          obtain ⟨b131, g131⟩ : ∃ z, z = h0.size := ⟨_, rfl⟩
          rw [← g131] at A131 st131
          have ne_a1_b131 : a1 ≠ b131 := Nat.ne_of_lt (Nat.lt_of_lt_of_le V1.lt (Nat.le_of_eq g131.symm))
          have g_b131 : n0 ≤ b131 := Nat.le_trans Z0 (Nat.le_of_eq g131.symm)
          have sz_b131 : h0.size ≤ b131 := Nat.le_trans KP0.1 (Nat.le_of_eq g131.symm)
          have f132 := V1.ext E131
          have Z133 : n0 ≤ h131.size := Nat.le_trans Z0 E131.1
          have KP134 : Keep h0 h131 [] := KP0.ext E131
          have K135 : ∀ t, Steps p.tables e below (T131.setTop (mkF m 23 #[.val (.ref a1), .val (.int (2 : Int32)), .val (.int (2 : Int32)), .val (.int (1 : Int32)), .unset, .unset] [(.ref b131)])) t → Steps p.tables e below G t := fun t k => K130 t (st131 t k)
          have V131 : Arv Z h131 b131 kn131 .int (2 : Int32) [(.int (0 : Int32)), (.int (0 : Int32))] (.int (0 : Int32)) := (Arv.new A131 (by decide)).pad (pad_rep [] (.int (0 : Int32)) 2)
          have K136 : ∀ t, Steps p.tables e below (T131.setTop (mkF m 42 #[.val (.ref a1), .val (.int (2 : Int32)), .val (.int (2 : Int32)), .val (.ref b131), .val (.int (2 : Int32)), .val (.int (1 : Int32))] [(.int (2 : Int32)), (.int (1 : Int32)), (.ref b131)])) t → Steps p.tables e below G t := by
            intro t k
            refine K135 t ?_
            show Steps p.tables e below (T131.setTop (mkF m 23 #[.val (.ref a1), .val (.int (2 : Int32)), .val (.int (2 : Int32)), .val (.int (1 : Int32)), .unset, .unset] [(.ref b131)])) _
            refine XS.astoreN X131.here hx rfl (hb hby d3_23) rfl rfl (l' := #[.val (.ref a1), .val (.int (2 : Int32)), .val (.int (2 : Int32)), .val (.ref b131), .unset, .unset]) rfl ?_
            refine XS.iloadN X131.here hx rfl (hb hby d3_24) rfl ?_
            refine XS.istore X131.here hx rfl (hb hby d3_25) rfl (l' := #[.val (.ref a1), .val (.int (2 : Int32)), .val (.int (2 : Int32)), .val (.ref b131), .val (.int (2 : Int32)), .unset]) rfl ?_
            refine XS.iloadN X131.here hx rfl (hb hby d3_27) rfl ?_
            show Steps p.tables e below (T131.setTop (mkF m 28 #[.val (.ref a1), .val (.int (2 : Int32)), .val (.int (2 : Int32)), .val (.ref b131), .val (.int (2 : Int32)), .unset] [(.int (2 : Int32))])) _
            refine XS.iconst X131.here hx rfl (hb hby d3_28) ?_
            refine XS.isub X131.here hx rfl (hb hby d3_29) rfl ?_
            refine XS.istore X131.here hx rfl (hb hby d3_30) rfl (l' := #[.val (.ref a1), .val (.int (2 : Int32)), .val (.int (2 : Int32)), .val (.ref b131), .val (.int (2 : Int32)), .val (.int (1 : Int32))]) rfl ?_
            refine XS.iload X131.here hx rfl (hb hby d3_32) rfl ?_
            show Steps p.tables e below (T131.setTop (mkF m 34 #[.val (.ref a1), .val (.int (2 : Int32)), .val (.int (2 : Int32)), .val (.ref b131), .val (.int (2 : Int32)), .val (.int (1 : Int32))] [(.int (1 : Int32))])) _
            refine XS.ifNo X131.here hx rfl (hb hby d3_34) rfl ((if0 _ _).trans (flt (by decide)).1) ?_
            refine XS.aloadN X131.here hx rfl (hb hby d3_37) rfl rfl ?_
            refine XS.iload X131.here hx rfl (hb hby d3_38) rfl ?_
            refine XS.iload X131.here hx rfl (hb hby d3_40) rfl ?_
            show Steps p.tables e below (T131.setTop (mkF m 42 #[.val (.ref a1), .val (.int (2 : Int32)), .val (.int (2 : Int32)), .val (.ref b131), .val (.int (2 : Int32)), .val (.int (1 : Int32))] [(.int (2 : Int32)), (.int (1 : Int32)), (.ref b131)])) _
            exact k
          obtain ⟨cl137, Ar137, qc137, S137, M137, Ha137, Ga137⟩ := id V131
          have hin137 : ¬ ((1 : Int32) < 0 ∨ cl137.slots.size ≤ ((1 : Int32)).toNatClampNeg) := inb_of S137 ⟨by decide, by decide⟩
          obtain ⟨T137, h137, X137, e137, W137, st137⟩ := stI X131 hx hZ e131 Ar137 (j := (1 : Int32)) hin137 (g := (mkF m 42 #[.val (.ref a1), .val (.int (2 : Int32)), .val (.int (2 : Int32)), .val (.ref b131), .val (.int (2 : Int32)), .val (.int (1 : Int32))] [(.int (2 : Int32)), (.int (1 : Int32)), (.ref b131)])) rfl rfl (hb hby d3_42)
          have V137 : Arv Z h137 b131 kn131 .int (2 : Int32) [(.int (0 : Int32)), (.int (2 : Int32))] (.int (0 : Int32)) := Arv.set Ar137 qc137 S137 M137 Ha137 Ga137 rfl W137 1 rfl (Nat.le_of_ble_eq_true rfl)
          have K138 : ∀ t, Steps p.tables e below (T137.setTop (mkF m 43 #[.val (.ref a1), .val (.int (2 : Int32)), .val (.int (2 : Int32)), .val (.ref b131), .val (.int (2 : Int32)), .val (.int (1 : Int32))] [])) t → Steps p.tables e below G t := fun t k => K136 t (st137 t k)
          have f139 := f132.other W137 ne_a1_b131
          have Z140 : n0 ≤ h137.size := Nat.le_trans Z133 (Keep.of_wr W137).1
          have KP141 : Keep h0 h137 [] := KP134.wr W137 (Or.inr sz_b131)
          have N142 := Fr.snoc X137 N0 g_b131
          have K143 : ∀ t, Steps p.tables e below (T137.setTop (mkF m 46 #[.val (.ref a1), .val (.int (2 : Int32)), .val (.int (2 : Int32)), .val (.ref b131), .val (.int (2 : Int32)), .val (.int (1 : Int32))] [(.int (2 : Int32)), (.ref a1)])) t → Steps p.tables e below G t := by
            intro t k
            refine K138 t ?_
            show Steps p.tables e below (T137.setTop (mkF m 43 #[.val (.ref a1), .val (.int (2 : Int32)), .val (.int (2 : Int32)), .val (.ref b131), .val (.int (2 : Int32)), .val (.int (1 : Int32))] [])) _
            refine XS.aloadN X137.here hx rfl (hb hby d3_43) rfl rfl ?_
            refine XS.iload X137.here hx rfl (hb hby d3_44) rfl ?_
            show Steps p.tables e below (T137.setTop (mkF m 46 #[.val (.ref a1), .val (.int (2 : Int32)), .val (.int (2 : Int32)), .val (.ref b131), .val (.int (2 : Int32)), .val (.int (1 : Int32))] [(.int (2 : Int32)), (.ref a1)])) _
            exact k
          obtain ⟨cl144, Ar144, qc144, S144, M144, Ha144, Ga144⟩ := id f139
          have hin144 : ¬ ((2 : Int32) < 0 ∨ cl144.slots.size ≤ ((2 : Int32)).toNatClampNeg) := inb_of S144 ⟨by decide, by decide⟩
          have hat144 : cl144.slots[((2 : Int32)).toNatClampNeg]? = some (.int (1 : Int32)) := Ha144.at hin144 rfl
          have K145 : ∀ t, Steps p.tables e below (T137.setTop (mkF m 47 #[.val (.ref a1), .val (.int (2 : Int32)), .val (.int (2 : Int32)), .val (.ref b131), .val (.int (2 : Int32)), .val (.int (1 : Int32))] [(.int (1 : Int32))])) t → Steps p.tables e below G t := fun t k => K143 t (X137.iaload hx (j := (2 : Int32)) (v := (.int (1 : Int32))) (by rw [e137]; exact Ar144.1) (State.isArrayOf_alike hZ.alike Ar144.2.1) Ar144.2.2 hin144 hat144 (g := (mkF m 46 #[.val (.ref a1), .val (.int (2 : Int32)), .val (.int (2 : Int32)), .val (.ref b131), .val (.int (2 : Int32)), .val (.int (1 : Int32))] [(.int (2 : Int32)), (.ref a1)])) rfl rfl (hb hby d3_46) _ k)
          have K146 : ∀ t, Steps p.tables e below (T137.setTop (mkF m 42 #[.val (.ref a1), .val (.int (2 : Int32)), .val (.int (2 : Int32)), .val (.ref b131), .val (.int (1 : Int32)), .val (.int (0 : Int32))] [(.int (1 : Int32)), (.int (0 : Int32)), (.ref b131)])) t → Steps p.tables e below G t := by
            intro t k
            refine K145 t ?_
            show Steps p.tables e below (T137.setTop (mkF m 47 #[.val (.ref a1), .val (.int (2 : Int32)), .val (.int (2 : Int32)), .val (.ref b131), .val (.int (2 : Int32)), .val (.int (1 : Int32))] [(.int (1 : Int32))])) _
            refine XS.istore X137.here hx rfl (hb hby d3_47) rfl (l' := #[.val (.ref a1), .val (.int (2 : Int32)), .val (.int (2 : Int32)), .val (.ref b131), .val (.int (1 : Int32)), .val (.int (1 : Int32))]) rfl ?_
            refine XS.iinc X137.here hx rfl (hb hby d3_49) rfl (l' := #[.val (.ref a1), .val (.int (2 : Int32)), .val (.int (2 : Int32)), .val (.ref b131), .val (.int (1 : Int32)), .val (.int (0 : Int32))]) rfl ?_
            refine XS.goto X137.here hx rfl (pc0 := 52) (pc' := 32) rfl (hb hby d3_52) (by decide) (by decide) ?_
            refine XS.iload X137.here hx rfl (hb hby d3_32) rfl ?_
            show Steps p.tables e below (T137.setTop (mkF m 34 #[.val (.ref a1), .val (.int (2 : Int32)), .val (.int (2 : Int32)), .val (.ref b131), .val (.int (1 : Int32)), .val (.int (0 : Int32))] [(.int (0 : Int32))])) _
            refine XS.ifNo X137.here hx rfl (hb hby d3_34) rfl ((if0 _ _).trans (flt (by decide)).1) ?_
            refine XS.aloadN X137.here hx rfl (hb hby d3_37) rfl rfl ?_
            refine XS.iload X137.here hx rfl (hb hby d3_38) rfl ?_
            refine XS.iload X137.here hx rfl (hb hby d3_40) rfl ?_
            show Steps p.tables e below (T137.setTop (mkF m 42 #[.val (.ref a1), .val (.int (2 : Int32)), .val (.int (2 : Int32)), .val (.ref b131), .val (.int (1 : Int32)), .val (.int (0 : Int32))] [(.int (1 : Int32)), (.int (0 : Int32)), (.ref b131)])) _
            exact k
          obtain ⟨cl147, Ar147, qc147, S147, M147, Ha147, Ga147⟩ := id V137
          have hin147 : ¬ ((0 : Int32) < 0 ∨ cl147.slots.size ≤ ((0 : Int32)).toNatClampNeg) := inb_of S147 ⟨by decide, by decide⟩
          obtain ⟨T147, h147, X147, e147, W147, st147⟩ := stI X137 hx hZ e137 Ar147 (j := (0 : Int32)) hin147 (g := (mkF m 42 #[.val (.ref a1), .val (.int (2 : Int32)), .val (.int (2 : Int32)), .val (.ref b131), .val (.int (1 : Int32)), .val (.int (0 : Int32))] [(.int (1 : Int32)), (.int (0 : Int32)), (.ref b131)])) rfl rfl (hb hby d3_42)
          have V147 : Arv Z h147 b131 kn131 .int (2 : Int32) [(.int (1 : Int32)), (.int (2 : Int32))] (.int (0 : Int32)) := Arv.set Ar147 qc147 S147 M147 Ha147 Ga147 rfl W147 0 rfl (Nat.le_of_ble_eq_true rfl)
          have K148 : ∀ t, Steps p.tables e below (T147.setTop (mkF m 43 #[.val (.ref a1), .val (.int (2 : Int32)), .val (.int (2 : Int32)), .val (.ref b131), .val (.int (1 : Int32)), .val (.int (0 : Int32))] [])) t → Steps p.tables e below G t := fun t k => K146 t (st147 t k)
          have f149 := f139.other W147 ne_a1_b131
          have Z150 : n0 ≤ h147.size := Nat.le_trans Z140 (Keep.of_wr W147).1
          have KP151 : Keep h0 h147 [] := KP141.wr W147 (Or.inr sz_b131)
          have N152 := Fr.snoc X147 N142 g_b131
          have K153 : ∀ t, Steps p.tables e below (T147.setTop (mkF m 46 #[.val (.ref a1), .val (.int (2 : Int32)), .val (.int (2 : Int32)), .val (.ref b131), .val (.int (1 : Int32)), .val (.int (0 : Int32))] [(.int (1 : Int32)), (.ref a1)])) t → Steps p.tables e below G t := by
            intro t k
            refine K148 t ?_
            show Steps p.tables e below (T147.setTop (mkF m 43 #[.val (.ref a1), .val (.int (2 : Int32)), .val (.int (2 : Int32)), .val (.ref b131), .val (.int (1 : Int32)), .val (.int (0 : Int32))] [])) _
            refine XS.aloadN X147.here hx rfl (hb hby d3_43) rfl rfl ?_
            refine XS.iload X147.here hx rfl (hb hby d3_44) rfl ?_
            show Steps p.tables e below (T147.setTop (mkF m 46 #[.val (.ref a1), .val (.int (2 : Int32)), .val (.int (2 : Int32)), .val (.ref b131), .val (.int (1 : Int32)), .val (.int (0 : Int32))] [(.int (1 : Int32)), (.ref a1)])) _
            exact k
          obtain ⟨cl154, Ar154, qc154, S154, M154, Ha154, Ga154⟩ := id f149
          have hin154 : ¬ ((1 : Int32) < 0 ∨ cl154.slots.size ≤ ((1 : Int32)).toNatClampNeg) := inb_of S154 ⟨by decide, by decide⟩
          have hat154 : cl154.slots[((1 : Int32)).toNatClampNeg]? = some (.int q1) := Ha154.at hin154 rfl
          have K155 : ∀ t, Steps p.tables e below (T147.setTop (mkF m 47 #[.val (.ref a1), .val (.int (2 : Int32)), .val (.int (2 : Int32)), .val (.ref b131), .val (.int (1 : Int32)), .val (.int (0 : Int32))] [(.int q1)])) t → Steps p.tables e below G t := fun t k => K153 t (X147.iaload hx (j := (1 : Int32)) (v := (.int q1)) (by rw [e147]; exact Ar154.1) (State.isArrayOf_alike hZ.alike Ar154.2.1) Ar154.2.2 hin154 hat154 (g := (mkF m 46 #[.val (.ref a1), .val (.int (2 : Int32)), .val (.int (2 : Int32)), .val (.ref b131), .val (.int (1 : Int32)), .val (.int (0 : Int32))] [(.int (1 : Int32)), (.ref a1)])) rfl rfl (hb hby d3_46) _ k)
          obtain ⟨fs, hr, hrun, hended, hW, hsame⟩ := X147.leave (v := some (.ref b131)) (fun h => by rw [Bd.returns] at h; cases h)
          have KF := K155
          rw [hG] at KF
          refine ⟨_, _, KF _ ?_, hrun, hended, _, _, rfl, ?_, ⟨_, rfl⟩, hW, hsame.mono (by decide) (by decide)⟩
          · show Steps p.tables e below (T147.setTop (mkF m 47 #[.val (.ref a1), .val (.int (2 : Int32)), .val (.int (2 : Int32)), .val (.ref b131), .val (.int (1 : Int32)), .val (.int (0 : Int32))] [(.int q1)])) _
            refine XS.istore X147.here hx rfl (hb hby d3_47) rfl (l' := #[.val (.ref a1), .val (.int (2 : Int32)), .val (.int (2 : Int32)), .val (.ref b131), .val (.int q1), .val (.int (0 : Int32))]) rfl ?_
            refine XS.iinc X147.here hx rfl (hb hby d3_49) rfl (l' := #[.val (.ref a1), .val (.int (2 : Int32)), .val (.int (2 : Int32)), .val (.ref b131), .val (.int q1), .val (.int (-1 : Int32))]) rfl ?_
            refine XS.goto X147.here hx rfl (pc0 := 52) (pc' := 32) rfl (hb hby d3_52) (by decide) (by decide) ?_
            refine XS.iload X147.here hx rfl (hb hby d3_32) rfl ?_
            show Steps p.tables e below (T147.setTop (mkF m 34 #[.val (.ref a1), .val (.int (2 : Int32)), .val (.int (2 : Int32)), .val (.ref b131), .val (.int q1), .val (.int (-1 : Int32))] [(.int (-1 : Int32))])) _
            refine XS.ifYes X147.here hx rfl (pc0 := 34) (pc' := 55) rfl (hb hby d3_34) rfl ((if0 _ _).trans (tlt (by decide)).1) (by decide) (by decide) ?_
            refine XS.aloadN X147.here hx rfl (hb hby d3_55) rfl rfl ?_
            show Steps p.tables e below (T147.setTop (mkF m 56 #[.val (.ref a1), .val (.int (2 : Int32)), .val (.int (2 : Int32)), .val (.ref b131), .val (.int q1), .val (.int (-1 : Int32))] [(.ref b131)])) _
            exact own_retA X147 hx Bd.returns rfl rfl rfl (hb hby d3_56) hr
          · show Q3 Z (2 : Int32) [(.int q0), (.int q1), (.int (1 : Int32)), (.int q3), (.int q4)] h0 n0 _ T147.heap _
            rw [e147]
            exact ⟨_, _, _, _, rfl, N152, KP151, sz_b131, V147, ⟨by decide, by decide⟩, ⟨by decide, by decide⟩, rfl, Or.inr ⟨1, q1, 0, by decide, rfl, ⟨by decide, by decide⟩, rfl, Or.inl ⟨rfl, hc129⟩⟩, Or.inr ⟨2, 1, 1, by decide, rfl, ⟨by decide, by decide⟩, rfl, Or.inr ⟨by decide, ⟨by decide, by decide⟩, rfl, rfl⟩⟩, Or.inl (by decide), Or.inl (by decide), Or.inl (by decide)⟩
        · have K156 : ∀ t, Steps p.tables e below (s₁.setTop (mkF m 15 #[.val (.ref a1), .val (.int (2 : Int32)), .val (.int (3 : Int32)), .val (.int (1 : Int32)), .unset, .unset] [(.int (1 : Int32)), (.ref a1)])) t → Steps p.tables e below G t := by
            intro t k
            refine K128 t ?_
            show Steps p.tables e below (s₁.setTop (mkF m 7 #[.val (.ref a1), .val (.int (2 : Int32)), .val (.int (2 : Int32)), .val (.int (1 : Int32)), .unset, .unset] [(.int q1)])) _
            refine XS.ifNo X0.here hx rfl (hb hby d3_7) rfl ((if0 _ _).trans (flt hc129).1) ?_
            refine XS.iinc X0.here hx rfl (hb hby d3_10) rfl (l' := #[.val (.ref a1), .val (.int (2 : Int32)), .val (.int (3 : Int32)), .val (.int (1 : Int32)), .unset, .unset]) rfl ?_
            refine XS.aloadN X0.here hx rfl (hb hby d3_13) rfl rfl ?_
            refine XS.iloadN X0.here hx rfl (hb hby d3_14) rfl ?_
            show Steps p.tables e below (s₁.setTop (mkF m 15 #[.val (.ref a1), .val (.int (2 : Int32)), .val (.int (3 : Int32)), .val (.int (1 : Int32)), .unset, .unset] [(.int (1 : Int32)), (.ref a1)])) _
            exact k
          obtain ⟨cl157, Ar157, qc157, S157, M157, Ha157, Ga157⟩ := id V1
          have hin157 : ¬ ((1 : Int32) < 0 ∨ cl157.slots.size ≤ ((1 : Int32)).toNatClampNeg) := inb_of S157 ⟨by decide, by decide⟩
          have hat157 : cl157.slots[((1 : Int32)).toNatClampNeg]? = some (.int q1) := Ha157.at hin157 rfl
          have K158 : ∀ t, Steps p.tables e below (s₁.setTop (mkF m 16 #[.val (.ref a1), .val (.int (2 : Int32)), .val (.int (3 : Int32)), .val (.int (1 : Int32)), .unset, .unset] [(.int q1)])) t → Steps p.tables e below G t := fun t k => K156 t (X0.iaload hx (j := (1 : Int32)) (v := (.int q1)) (by rw [e0]; exact Ar157.1) (State.isArrayOf_alike hZ.alike Ar157.2.1) Ar157.2.2 hin157 hat157 (g := (mkF m 15 #[.val (.ref a1), .val (.int (2 : Int32)), .val (.int (3 : Int32)), .val (.int (1 : Int32)), .unset, .unset] [(.int (1 : Int32)), (.ref a1)])) rfl rfl (hb hby d3_15) _ k)
          have K159 : ∀ t, Steps p.tables e below (s₁.setTop (mkF m 4 #[.val (.ref a1), .val (.int (2 : Int32)), .val (.int (3 : Int32)), .val (.int q1), .unset, .unset] [])) t → Steps p.tables e below G t := by
            intro t k
            refine K158 t ?_
            show Steps p.tables e below (s₁.setTop (mkF m 16 #[.val (.ref a1), .val (.int (2 : Int32)), .val (.int (3 : Int32)), .val (.int (1 : Int32)), .unset, .unset] [(.int q1)])) _
            refine XS.istoreN X0.here hx rfl (hb hby d3_16) rfl (l' := #[.val (.ref a1), .val (.int (2 : Int32)), .val (.int (3 : Int32)), .val (.int q1), .unset, .unset]) rfl ?_
            refine XS.goto X0.here hx rfl (pc0 := 17) (pc' := 4) rfl (hb hby d3_17) (by decide) (by decide) ?_
            show Steps p.tables e below (s₁.setTop (mkF m 4 #[.val (.ref a1), .val (.int (2 : Int32)), .val (.int (3 : Int32)), .val (.int q1), .unset, .unset] [])) _
            exact k
          obtain rfl := own_lt1 hc129 hq1
          · have K160 : ∀ t, Steps p.tables e below (s₁.setTop (mkF m 6 #[.val (.ref a1), .val (.int (2 : Int32)), .val (.int (3 : Int32)), .val (.int (0 : Int32)), .unset, .unset] [(.int (0 : Int32)), (.ref a1)])) t → Steps p.tables e below G t := by
              intro t k
              refine K159 t ?_
              show Steps p.tables e below (s₁.setTop (mkF m 4 #[.val (.ref a1), .val (.int (2 : Int32)), .val (.int (3 : Int32)), .val (.int (0 : Int32)), .unset, .unset] [])) _
              refine XS.aloadN X0.here hx rfl (hb hby d3_4) rfl rfl ?_
              refine XS.iloadN X0.here hx rfl (hb hby d3_5) rfl ?_
              show Steps p.tables e below (s₁.setTop (mkF m 6 #[.val (.ref a1), .val (.int (2 : Int32)), .val (.int (3 : Int32)), .val (.int (0 : Int32)), .unset, .unset] [(.int (0 : Int32)), (.ref a1)])) _
              exact k
            obtain ⟨cl161, Ar161, qc161, S161, M161, Ha161, Ga161⟩ := id V1
            have hin161 : ¬ ((0 : Int32) < 0 ∨ cl161.slots.size ≤ ((0 : Int32)).toNatClampNeg) := inb_of S161 ⟨by decide, by decide⟩
            have hat161 : cl161.slots[((0 : Int32)).toNatClampNeg]? = some (.int q0) := Ha161.at hin161 rfl
            have K162 : ∀ t, Steps p.tables e below (s₁.setTop (mkF m 7 #[.val (.ref a1), .val (.int (2 : Int32)), .val (.int (3 : Int32)), .val (.int (0 : Int32)), .unset, .unset] [(.int q0)])) t → Steps p.tables e below G t := fun t k => K160 t (X0.iaload hx (j := (0 : Int32)) (v := (.int q0)) (by rw [e0]; exact Ar161.1) (State.isArrayOf_alike hZ.alike Ar161.2.1) Ar161.2.2 hin161 hat161 (g := (mkF m 6 #[.val (.ref a1), .val (.int (2 : Int32)), .val (.int (3 : Int32)), .val (.int (0 : Int32)), .unset, .unset] [(.int (0 : Int32)), (.ref a1)])) rfl rfl (hb hby d3_6) _ k)
            have K163 : ∀ t, Steps p.tables e below (s₁.setTop (mkF m 21 #[.val (.ref a1), .val (.int (2 : Int32)), .val (.int (3 : Int32)), .val (.int (0 : Int32)), .unset, .unset] [(.int (3 : Int32))])) t → Steps p.tables e below G t := by
              intro t k
              refine K162 t ?_
              show Steps p.tables e below (s₁.setTop (mkF m 7 #[.val (.ref a1), .val (.int (2 : Int32)), .val (.int (3 : Int32)), .val (.int (0 : Int32)), .unset, .unset] [(.int q0)])) _
              refine XS.ifYes X0.here hx rfl (pc0 := 7) (pc' := 20) rfl (hb hby d3_7) rfl ((if0 _ _).trans (tlt hq0).1) (by decide) (by decide) ?_
              refine XS.iloadN X0.here hx rfl (hb hby d3_20) rfl ?_
              show Steps p.tables e below (s₁.setTop (mkF m 21 #[.val (.ref a1), .val (.int (2 : Int32)), .val (.int (3 : Int32)), .val (.int (0 : Int32)), .unset, .unset] [(.int (3 : Int32))])) _
              exact k
            obtain ⟨T164, h164, kn164, X164, e164, E164, A164, st164⟩ := newP X0 hx hZ (hw _ (List.mem_of_getElem? (i := 8) rfl)) e0 (g := (mkF m 21 #[.val (.ref a1), .val (.int (2 : Int32)), .val (.int (3 : Int32)), .val (.int (0 : Int32)), .unset, .unset] [(.int (3 : Int32))])) rfl (hb hby d3_21) rfl (by decide) (cap := 3) (by decide) (by decide) (by decide) (by decide)
            obtain ⟨b164, g164⟩ : ∃ z, z = h0.size := ⟨_, rfl⟩
            rw [← g164] at A164 st164
            have ne_a1_b164 : a1 ≠ b164 := Nat.ne_of_lt (Nat.lt_of_lt_of_le V1.lt (Nat.le_of_eq g164.symm))
            have g_b164 : n0 ≤ b164 := Nat.le_trans Z0 (Nat.le_of_eq g164.symm)
            have sz_b164 : h0.size ≤ b164 := Nat.le_trans KP0.1 (Nat.le_of_eq g164.symm)
            have f165 := V1.ext E164
            have Z166 : n0 ≤ h164.size := Nat.le_trans Z0 E164.1
            have KP167 : Keep h0 h164 [] := KP0.ext E164
            have K168 : ∀ t, Steps p.tables e below (T164.setTop (mkF m 23 #[.val (.ref a1), .val (.int (2 : Int32)), .val (.int (3 : Int32)), .val (.int (0 : Int32)), .unset, .unset] [(.ref b164)])) t → Steps p.tables e below G t := fun t k => K163 t (st164 t k)
            have V164 : Arv Z h164 b164 kn164 .int (3 : Int32) [(.int (0 : Int32)), (.int (0 : Int32)), (.int (0 : Int32))] (.int (0 : Int32)) := (Arv.new A164 (by decide)).pad (pad_rep [] (.int (0 : Int32)) 3)
            have K169 : ∀ t, Steps p.tables e below (T164.setTop (mkF m 42 #[.val (.ref a1), .val (.int (2 : Int32)), .val (.int (3 : Int32)), .val (.ref b164), .val (.int (2 : Int32)), .val (.int (2 : Int32))] [(.int (2 : Int32)), (.int (2 : Int32)), (.ref b164)])) t → Steps p.tables e below G t := by
              intro t k
              refine K168 t ?_
              show Steps p.tables e below (T164.setTop (mkF m 23 #[.val (.ref a1), .val (.int (2 : Int32)), .val (.int (3 : Int32)), .val (.int (0 : Int32)), .unset, .unset] [(.ref b164)])) _
              refine XS.astoreN X164.here hx rfl (hb hby d3_23) rfl rfl (l' := #[.val (.ref a1), .val (.int (2 : Int32)), .val (.int (3 : Int32)), .val (.ref b164), .unset, .unset]) rfl ?_
              refine XS.iloadN X164.here hx rfl (hb hby d3_24) rfl ?_
              refine XS.istore X164.here hx rfl (hb hby d3_25) rfl (l' := #[.val (.ref a1), .val (.int (2 : Int32)), .val (.int (3 : Int32)), .val (.ref b164), .val (.int (2 : Int32)), .unset]) rfl ?_
              refine XS.iloadN X164.here hx rfl (hb hby d3_27) rfl ?_
              show Steps p.tables e below (T164.setTop (mkF m 28 #[.val (.ref a1), .val (.int (2 : Int32)), .val (.int (3 : Int32)), .val (.ref b164), .val (.int (2 : Int32)), .unset] [(.int (3 : Int32))])) _
              refine XS.iconst X164.here hx rfl (hb hby d3_28) ?_
              refine XS.isub X164.here hx rfl (hb hby d3_29) rfl ?_
              refine XS.istore X164.here hx rfl (hb hby d3_30) rfl (l' := #[.val (.ref a1), .val (.int (2 : Int32)), .val (.int (3 : Int32)), .val (.ref b164), .val (.int (2 : Int32)), .val (.int (2 : Int32))]) rfl ?_
              refine XS.iload X164.here hx rfl (hb hby d3_32) rfl ?_
              show Steps p.tables e below (T164.setTop (mkF m 34 #[.val (.ref a1), .val (.int (2 : Int32)), .val (.int (3 : Int32)), .val (.ref b164), .val (.int (2 : Int32)), .val (.int (2 : Int32))] [(.int (2 : Int32))])) _
              refine XS.ifNo X164.here hx rfl (hb hby d3_34) rfl ((if0 _ _).trans (flt (by decide)).1) ?_
              refine XS.aloadN X164.here hx rfl (hb hby d3_37) rfl rfl ?_
              refine XS.iload X164.here hx rfl (hb hby d3_38) rfl ?_
              refine XS.iload X164.here hx rfl (hb hby d3_40) rfl ?_
              show Steps p.tables e below (T164.setTop (mkF m 42 #[.val (.ref a1), .val (.int (2 : Int32)), .val (.int (3 : Int32)), .val (.ref b164), .val (.int (2 : Int32)), .val (.int (2 : Int32))] [(.int (2 : Int32)), (.int (2 : Int32)), (.ref b164)])) _
              exact k
            obtain ⟨cl170, Ar170, qc170, S170, M170, Ha170, Ga170⟩ := id V164
            have hin170 : ¬ ((2 : Int32) < 0 ∨ cl170.slots.size ≤ ((2 : Int32)).toNatClampNeg) := inb_of S170 ⟨by decide, by decide⟩
            obtain ⟨T170, h170, X170, e170, W170, st170⟩ := stI X164 hx hZ e164 Ar170 (j := (2 : Int32)) hin170 (g := (mkF m 42 #[.val (.ref a1), .val (.int (2 : Int32)), .val (.int (3 : Int32)), .val (.ref b164), .val (.int (2 : Int32)), .val (.int (2 : Int32))] [(.int (2 : Int32)), (.int (2 : Int32)), (.ref b164)])) rfl rfl (hb hby d3_42)
            have V170 : Arv Z h170 b164 kn164 .int (3 : Int32) [(.int (0 : Int32)), (.int (0 : Int32)), (.int (2 : Int32))] (.int (0 : Int32)) := Arv.set Ar170 qc170 S170 M170 Ha170 Ga170 rfl W170 2 rfl (Nat.le_of_ble_eq_true rfl)
            have K171 : ∀ t, Steps p.tables e below (T170.setTop (mkF m 43 #[.val (.ref a1), .val (.int (2 : Int32)), .val (.int (3 : Int32)), .val (.ref b164), .val (.int (2 : Int32)), .val (.int (2 : Int32))] [])) t → Steps p.tables e below G t := fun t k => K169 t (st170 t k)
            have f172 := f165.other W170 ne_a1_b164
            have Z173 : n0 ≤ h170.size := Nat.le_trans Z166 (Keep.of_wr W170).1
            have KP174 : Keep h0 h170 [] := KP167.wr W170 (Or.inr sz_b164)
            have N175 := Fr.snoc X170 N0 g_b164
            have K176 : ∀ t, Steps p.tables e below (T170.setTop (mkF m 46 #[.val (.ref a1), .val (.int (2 : Int32)), .val (.int (3 : Int32)), .val (.ref b164), .val (.int (2 : Int32)), .val (.int (2 : Int32))] [(.int (2 : Int32)), (.ref a1)])) t → Steps p.tables e below G t := by
              intro t k
              refine K171 t ?_
              show Steps p.tables e below (T170.setTop (mkF m 43 #[.val (.ref a1), .val (.int (2 : Int32)), .val (.int (3 : Int32)), .val (.ref b164), .val (.int (2 : Int32)), .val (.int (2 : Int32))] [])) _
              refine XS.aloadN X170.here hx rfl (hb hby d3_43) rfl rfl ?_
              refine XS.iload X170.here hx rfl (hb hby d3_44) rfl ?_
              show Steps p.tables e below (T170.setTop (mkF m 46 #[.val (.ref a1), .val (.int (2 : Int32)), .val (.int (3 : Int32)), .val (.ref b164), .val (.int (2 : Int32)), .val (.int (2 : Int32))] [(.int (2 : Int32)), (.ref a1)])) _
              exact k
            obtain ⟨cl177, Ar177, qc177, S177, M177, Ha177, Ga177⟩ := id f172
            have hin177 : ¬ ((2 : Int32) < 0 ∨ cl177.slots.size ≤ ((2 : Int32)).toNatClampNeg) := inb_of S177 ⟨by decide, by decide⟩
            have hat177 : cl177.slots[((2 : Int32)).toNatClampNeg]? = some (.int (1 : Int32)) := Ha177.at hin177 rfl
            have K178 : ∀ t, Steps p.tables e below (T170.setTop (mkF m 47 #[.val (.ref a1), .val (.int (2 : Int32)), .val (.int (3 : Int32)), .val (.ref b164), .val (.int (2 : Int32)), .val (.int (2 : Int32))] [(.int (1 : Int32))])) t → Steps p.tables e below G t := fun t k => K176 t (X170.iaload hx (j := (2 : Int32)) (v := (.int (1 : Int32))) (by rw [e170]; exact Ar177.1) (State.isArrayOf_alike hZ.alike Ar177.2.1) Ar177.2.2 hin177 hat177 (g := (mkF m 46 #[.val (.ref a1), .val (.int (2 : Int32)), .val (.int (3 : Int32)), .val (.ref b164), .val (.int (2 : Int32)), .val (.int (2 : Int32))] [(.int (2 : Int32)), (.ref a1)])) rfl rfl (hb hby d3_46) _ k)
            have K179 : ∀ t, Steps p.tables e below (T170.setTop (mkF m 42 #[.val (.ref a1), .val (.int (2 : Int32)), .val (.int (3 : Int32)), .val (.ref b164), .val (.int (1 : Int32)), .val (.int (1 : Int32))] [(.int (1 : Int32)), (.int (1 : Int32)), (.ref b164)])) t → Steps p.tables e below G t := by
              intro t k
              refine K178 t ?_
              show Steps p.tables e below (T170.setTop (mkF m 47 #[.val (.ref a1), .val (.int (2 : Int32)), .val (.int (3 : Int32)), .val (.ref b164), .val (.int (2 : Int32)), .val (.int (2 : Int32))] [(.int (1 : Int32))])) _
              refine XS.istore X170.here hx rfl (hb hby d3_47) rfl (l' := #[.val (.ref a1), .val (.int (2 : Int32)), .val (.int (3 : Int32)), .val (.ref b164), .val (.int (1 : Int32)), .val (.int (2 : Int32))]) rfl ?_
              refine XS.iinc X170.here hx rfl (hb hby d3_49) rfl (l' := #[.val (.ref a1), .val (.int (2 : Int32)), .val (.int (3 : Int32)), .val (.ref b164), .val (.int (1 : Int32)), .val (.int (1 : Int32))]) rfl ?_
              refine XS.goto X170.here hx rfl (pc0 := 52) (pc' := 32) rfl (hb hby d3_52) (by decide) (by decide) ?_
              refine XS.iload X170.here hx rfl (hb hby d3_32) rfl ?_
              show Steps p.tables e below (T170.setTop (mkF m 34 #[.val (.ref a1), .val (.int (2 : Int32)), .val (.int (3 : Int32)), .val (.ref b164), .val (.int (1 : Int32)), .val (.int (1 : Int32))] [(.int (1 : Int32))])) _
              refine XS.ifNo X170.here hx rfl (hb hby d3_34) rfl ((if0 _ _).trans (flt (by decide)).1) ?_
              refine XS.aloadN X170.here hx rfl (hb hby d3_37) rfl rfl ?_
              refine XS.iload X170.here hx rfl (hb hby d3_38) rfl ?_
              refine XS.iload X170.here hx rfl (hb hby d3_40) rfl ?_
              show Steps p.tables e below (T170.setTop (mkF m 42 #[.val (.ref a1), .val (.int (2 : Int32)), .val (.int (3 : Int32)), .val (.ref b164), .val (.int (1 : Int32)), .val (.int (1 : Int32))] [(.int (1 : Int32)), (.int (1 : Int32)), (.ref b164)])) _
              exact k
            obtain ⟨cl180, Ar180, qc180, S180, M180, Ha180, Ga180⟩ := id V170
            have hin180 : ¬ ((1 : Int32) < 0 ∨ cl180.slots.size ≤ ((1 : Int32)).toNatClampNeg) := inb_of S180 ⟨by decide, by decide⟩
            obtain ⟨T180, h180, X180, e180, W180, st180⟩ := stI X170 hx hZ e170 Ar180 (j := (1 : Int32)) hin180 (g := (mkF m 42 #[.val (.ref a1), .val (.int (2 : Int32)), .val (.int (3 : Int32)), .val (.ref b164), .val (.int (1 : Int32)), .val (.int (1 : Int32))] [(.int (1 : Int32)), (.int (1 : Int32)), (.ref b164)])) rfl rfl (hb hby d3_42)
            have V180 : Arv Z h180 b164 kn164 .int (3 : Int32) [(.int (0 : Int32)), (.int (1 : Int32)), (.int (2 : Int32))] (.int (0 : Int32)) := Arv.set Ar180 qc180 S180 M180 Ha180 Ga180 rfl W180 1 rfl (Nat.le_of_ble_eq_true rfl)
            have K181 : ∀ t, Steps p.tables e below (T180.setTop (mkF m 43 #[.val (.ref a1), .val (.int (2 : Int32)), .val (.int (3 : Int32)), .val (.ref b164), .val (.int (1 : Int32)), .val (.int (1 : Int32))] [])) t → Steps p.tables e below G t := fun t k => K179 t (st180 t k)
            have f182 := f172.other W180 ne_a1_b164
            have Z183 : n0 ≤ h180.size := Nat.le_trans Z173 (Keep.of_wr W180).1
            have KP184 : Keep h0 h180 [] := KP174.wr W180 (Or.inr sz_b164)
            have N185 := Fr.snoc X180 N175 g_b164
            have K186 : ∀ t, Steps p.tables e below (T180.setTop (mkF m 46 #[.val (.ref a1), .val (.int (2 : Int32)), .val (.int (3 : Int32)), .val (.ref b164), .val (.int (1 : Int32)), .val (.int (1 : Int32))] [(.int (1 : Int32)), (.ref a1)])) t → Steps p.tables e below G t := by
              intro t k
              refine K181 t ?_
              show Steps p.tables e below (T180.setTop (mkF m 43 #[.val (.ref a1), .val (.int (2 : Int32)), .val (.int (3 : Int32)), .val (.ref b164), .val (.int (1 : Int32)), .val (.int (1 : Int32))] [])) _
              refine XS.aloadN X180.here hx rfl (hb hby d3_43) rfl rfl ?_
              refine XS.iload X180.here hx rfl (hb hby d3_44) rfl ?_
              show Steps p.tables e below (T180.setTop (mkF m 46 #[.val (.ref a1), .val (.int (2 : Int32)), .val (.int (3 : Int32)), .val (.ref b164), .val (.int (1 : Int32)), .val (.int (1 : Int32))] [(.int (1 : Int32)), (.ref a1)])) _
              exact k
            obtain ⟨cl187, Ar187, qc187, S187, M187, Ha187, Ga187⟩ := id f182
            have hin187 : ¬ ((1 : Int32) < 0 ∨ cl187.slots.size ≤ ((1 : Int32)).toNatClampNeg) := inb_of S187 ⟨by decide, by decide⟩
            have hat187 : cl187.slots[((1 : Int32)).toNatClampNeg]? = some (.int (0 : Int32)) := Ha187.at hin187 rfl
            have K188 : ∀ t, Steps p.tables e below (T180.setTop (mkF m 47 #[.val (.ref a1), .val (.int (2 : Int32)), .val (.int (3 : Int32)), .val (.ref b164), .val (.int (1 : Int32)), .val (.int (1 : Int32))] [(.int (0 : Int32))])) t → Steps p.tables e below G t := fun t k => K186 t (X180.iaload hx (j := (1 : Int32)) (v := (.int (0 : Int32))) (by rw [e180]; exact Ar187.1) (State.isArrayOf_alike hZ.alike Ar187.2.1) Ar187.2.2 hin187 hat187 (g := (mkF m 46 #[.val (.ref a1), .val (.int (2 : Int32)), .val (.int (3 : Int32)), .val (.ref b164), .val (.int (1 : Int32)), .val (.int (1 : Int32))] [(.int (1 : Int32)), (.ref a1)])) rfl rfl (hb hby d3_46) _ k)
            have K189 : ∀ t, Steps p.tables e below (T180.setTop (mkF m 42 #[.val (.ref a1), .val (.int (2 : Int32)), .val (.int (3 : Int32)), .val (.ref b164), .val (.int (0 : Int32)), .val (.int (0 : Int32))] [(.int (0 : Int32)), (.int (0 : Int32)), (.ref b164)])) t → Steps p.tables e below G t := by
              intro t k
              refine K188 t ?_
              show Steps p.tables e below (T180.setTop (mkF m 47 #[.val (.ref a1), .val (.int (2 : Int32)), .val (.int (3 : Int32)), .val (.ref b164), .val (.int (1 : Int32)), .val (.int (1 : Int32))] [(.int (0 : Int32))])) _
              refine XS.istore X180.here hx rfl (hb hby d3_47) rfl (l' := #[.val (.ref a1), .val (.int (2 : Int32)), .val (.int (3 : Int32)), .val (.ref b164), .val (.int (0 : Int32)), .val (.int (1 : Int32))]) rfl ?_
              refine XS.iinc X180.here hx rfl (hb hby d3_49) rfl (l' := #[.val (.ref a1), .val (.int (2 : Int32)), .val (.int (3 : Int32)), .val (.ref b164), .val (.int (0 : Int32)), .val (.int (0 : Int32))]) rfl ?_
              refine XS.goto X180.here hx rfl (pc0 := 52) (pc' := 32) rfl (hb hby d3_52) (by decide) (by decide) ?_
              refine XS.iload X180.here hx rfl (hb hby d3_32) rfl ?_
              show Steps p.tables e below (T180.setTop (mkF m 34 #[.val (.ref a1), .val (.int (2 : Int32)), .val (.int (3 : Int32)), .val (.ref b164), .val (.int (0 : Int32)), .val (.int (0 : Int32))] [(.int (0 : Int32))])) _
              refine XS.ifNo X180.here hx rfl (hb hby d3_34) rfl ((if0 _ _).trans (flt (by decide)).1) ?_
              refine XS.aloadN X180.here hx rfl (hb hby d3_37) rfl rfl ?_
              refine XS.iload X180.here hx rfl (hb hby d3_38) rfl ?_
              refine XS.iload X180.here hx rfl (hb hby d3_40) rfl ?_
              show Steps p.tables e below (T180.setTop (mkF m 42 #[.val (.ref a1), .val (.int (2 : Int32)), .val (.int (3 : Int32)), .val (.ref b164), .val (.int (0 : Int32)), .val (.int (0 : Int32))] [(.int (0 : Int32)), (.int (0 : Int32)), (.ref b164)])) _
              exact k
            obtain ⟨cl190, Ar190, qc190, S190, M190, Ha190, Ga190⟩ := id V180
            have hin190 : ¬ ((0 : Int32) < 0 ∨ cl190.slots.size ≤ ((0 : Int32)).toNatClampNeg) := inb_of S190 ⟨by decide, by decide⟩
            obtain ⟨T190, h190, X190, e190, W190, st190⟩ := stI X180 hx hZ e180 Ar190 (j := (0 : Int32)) hin190 (g := (mkF m 42 #[.val (.ref a1), .val (.int (2 : Int32)), .val (.int (3 : Int32)), .val (.ref b164), .val (.int (0 : Int32)), .val (.int (0 : Int32))] [(.int (0 : Int32)), (.int (0 : Int32)), (.ref b164)])) rfl rfl (hb hby d3_42)
            have V190 : Arv Z h190 b164 kn164 .int (3 : Int32) [(.int (0 : Int32)), (.int (1 : Int32)), (.int (2 : Int32))] (.int (0 : Int32)) := Arv.set Ar190 qc190 S190 M190 Ha190 Ga190 rfl W190 0 rfl (Nat.le_of_ble_eq_true rfl)
            have K191 : ∀ t, Steps p.tables e below (T190.setTop (mkF m 43 #[.val (.ref a1), .val (.int (2 : Int32)), .val (.int (3 : Int32)), .val (.ref b164), .val (.int (0 : Int32)), .val (.int (0 : Int32))] [])) t → Steps p.tables e below G t := fun t k => K189 t (st190 t k)
            have f192 := f182.other W190 ne_a1_b164
            have Z193 : n0 ≤ h190.size := Nat.le_trans Z183 (Keep.of_wr W190).1
            have KP194 : Keep h0 h190 [] := KP184.wr W190 (Or.inr sz_b164)
            have N195 := Fr.snoc X190 N185 g_b164
            have K196 : ∀ t, Steps p.tables e below (T190.setTop (mkF m 46 #[.val (.ref a1), .val (.int (2 : Int32)), .val (.int (3 : Int32)), .val (.ref b164), .val (.int (0 : Int32)), .val (.int (0 : Int32))] [(.int (0 : Int32)), (.ref a1)])) t → Steps p.tables e below G t := by
              intro t k
              refine K191 t ?_
              show Steps p.tables e below (T190.setTop (mkF m 43 #[.val (.ref a1), .val (.int (2 : Int32)), .val (.int (3 : Int32)), .val (.ref b164), .val (.int (0 : Int32)), .val (.int (0 : Int32))] [])) _
              refine XS.aloadN X190.here hx rfl (hb hby d3_43) rfl rfl ?_
              refine XS.iload X190.here hx rfl (hb hby d3_44) rfl ?_
              show Steps p.tables e below (T190.setTop (mkF m 46 #[.val (.ref a1), .val (.int (2 : Int32)), .val (.int (3 : Int32)), .val (.ref b164), .val (.int (0 : Int32)), .val (.int (0 : Int32))] [(.int (0 : Int32)), (.ref a1)])) _
              exact k
            obtain ⟨cl197, Ar197, qc197, S197, M197, Ha197, Ga197⟩ := id f192
            have hin197 : ¬ ((0 : Int32) < 0 ∨ cl197.slots.size ≤ ((0 : Int32)).toNatClampNeg) := inb_of S197 ⟨by decide, by decide⟩
            have hat197 : cl197.slots[((0 : Int32)).toNatClampNeg]? = some (.int q0) := Ha197.at hin197 rfl
            have K198 : ∀ t, Steps p.tables e below (T190.setTop (mkF m 47 #[.val (.ref a1), .val (.int (2 : Int32)), .val (.int (3 : Int32)), .val (.ref b164), .val (.int (0 : Int32)), .val (.int (0 : Int32))] [(.int q0)])) t → Steps p.tables e below G t := fun t k => K196 t (X190.iaload hx (j := (0 : Int32)) (v := (.int q0)) (by rw [e190]; exact Ar197.1) (State.isArrayOf_alike hZ.alike Ar197.2.1) Ar197.2.2 hin197 hat197 (g := (mkF m 46 #[.val (.ref a1), .val (.int (2 : Int32)), .val (.int (3 : Int32)), .val (.ref b164), .val (.int (0 : Int32)), .val (.int (0 : Int32))] [(.int (0 : Int32)), (.ref a1)])) rfl rfl (hb hby d3_46) _ k)
            obtain ⟨fs, hr, hrun, hended, hW, hsame⟩ := X190.leave (v := some (.ref b164)) (fun h => by rw [Bd.returns] at h; cases h)
            have KF := K198
            rw [hG] at KF
            refine ⟨_, _, KF _ ?_, hrun, hended, _, _, rfl, ?_, ⟨_, rfl⟩, hW, hsame.mono (by decide) (by decide)⟩
            · show Steps p.tables e below (T190.setTop (mkF m 47 #[.val (.ref a1), .val (.int (2 : Int32)), .val (.int (3 : Int32)), .val (.ref b164), .val (.int (0 : Int32)), .val (.int (0 : Int32))] [(.int q0)])) _
              refine XS.istore X190.here hx rfl (hb hby d3_47) rfl (l' := #[.val (.ref a1), .val (.int (2 : Int32)), .val (.int (3 : Int32)), .val (.ref b164), .val (.int q0), .val (.int (0 : Int32))]) rfl ?_
              refine XS.iinc X190.here hx rfl (hb hby d3_49) rfl (l' := #[.val (.ref a1), .val (.int (2 : Int32)), .val (.int (3 : Int32)), .val (.ref b164), .val (.int q0), .val (.int (-1 : Int32))]) rfl ?_
              refine XS.goto X190.here hx rfl (pc0 := 52) (pc' := 32) rfl (hb hby d3_52) (by decide) (by decide) ?_
              refine XS.iload X190.here hx rfl (hb hby d3_32) rfl ?_
              show Steps p.tables e below (T190.setTop (mkF m 34 #[.val (.ref a1), .val (.int (2 : Int32)), .val (.int (3 : Int32)), .val (.ref b164), .val (.int q0), .val (.int (-1 : Int32))] [(.int (-1 : Int32))])) _
              refine XS.ifYes X190.here hx rfl (pc0 := 34) (pc' := 55) rfl (hb hby d3_34) rfl ((if0 _ _).trans (tlt (by decide)).1) (by decide) (by decide) ?_
              refine XS.aloadN X190.here hx rfl (hb hby d3_55) rfl rfl ?_
              show Steps p.tables e below (T190.setTop (mkF m 56 #[.val (.ref a1), .val (.int (2 : Int32)), .val (.int (3 : Int32)), .val (.ref b164), .val (.int q0), .val (.int (-1 : Int32))] [(.ref b164)])) _
              exact own_retA X190 hx Bd.returns rfl rfl rfl (hb hby d3_56) hr
            · show Q3 Z (2 : Int32) [(.int q0), (.int (0 : Int32)), (.int (1 : Int32)), (.int q3), (.int q4)] h0 n0 _ T190.heap _
              rw [e190]
              exact ⟨_, _, _, _, rfl, N195, KP194, sz_b164, V190, ⟨by decide, by decide⟩, ⟨by decide, by decide⟩, rfl, Or.inr ⟨0, q0, 0, by decide, rfl, ⟨by decide, by decide⟩, rfl, Or.inl ⟨rfl, hq0⟩⟩, Or.inr ⟨1, 0, 0, by decide, rfl, ⟨by decide, by decide⟩, rfl, Or.inr ⟨by decide, ⟨by decide, by decide⟩, rfl, rfl⟩⟩, Or.inr ⟨2, 1, 1, by decide, rfl, ⟨by decide, by decide⟩, rfl, Or.inr ⟨by decide, ⟨by decide, by decide⟩, rfl, rfl⟩⟩, Or.inl (by decide), Or.inl (by decide)⟩
  · have K199 : ∀ t, Steps p.tables e below (s₁.setTop (mkF m 6 #[.val (.ref a1), .val (.int (3 : Int32)), .val (.int (1 : Int32)), .val (.int (3 : Int32)), .unset, .unset] [(.int (3 : Int32)), (.ref a1)])) t → Steps p.tables e below G t := by
      intro t k
      refine pre0 t ?_
      show Steps p.tables e below (s₁.setTop (mkF m 0 #[.val (.ref a1), .val (.int (3 : Int32)), .unset, .unset, .unset, .unset] [])) _
      refine XS.iconst X0.here hx rfl (hb hby d3_0) ?_
      refine XS.istoreN X0.here hx rfl (hb hby d3_1) rfl (l' := #[.val (.ref a1), .val (.int (3 : Int32)), .val (.int (1 : Int32)), .unset, .unset, .unset]) rfl ?_
      refine XS.iloadN X0.here hx rfl (hb hby d3_2) rfl ?_
      refine XS.istoreN X0.here hx rfl (hb hby d3_3) rfl (l' := #[.val (.ref a1), .val (.int (3 : Int32)), .val (.int (1 : Int32)), .val (.int (3 : Int32)), .unset, .unset]) rfl ?_
      show Steps p.tables e below (s₁.setTop (mkF m 4 #[.val (.ref a1), .val (.int (3 : Int32)), .val (.int (1 : Int32)), .val (.int (3 : Int32)), .unset, .unset] [])) _
      refine XS.aloadN X0.here hx rfl (hb hby d3_4) rfl rfl ?_
      refine XS.iloadN X0.here hx rfl (hb hby d3_5) rfl ?_
      show Steps p.tables e below (s₁.setTop (mkF m 6 #[.val (.ref a1), .val (.int (3 : Int32)), .val (.int (1 : Int32)), .val (.int (3 : Int32)), .unset, .unset] [(.int (3 : Int32)), (.ref a1)])) _
      exact k
    obtain ⟨cl200, Ar200, qc200, S200, M200, Ha200, Ga200⟩ := id V1
    have hin200 : ¬ ((3 : Int32) < 0 ∨ cl200.slots.size ≤ ((3 : Int32)).toNatClampNeg) := inb_of S200 ⟨by decide, by decide⟩
    have hat200 : cl200.slots[((3 : Int32)).toNatClampNeg]? = some (.int q3) := Ha200.at hin200 rfl
    have K201 : ∀ t, Steps p.tables e below (s₁.setTop (mkF m 7 #[.val (.ref a1), .val (.int (3 : Int32)), .val (.int (1 : Int32)), .val (.int (3 : Int32)), .unset, .unset] [(.int q3)])) t → Steps p.tables e below G t := fun t k => K199 t (X0.iaload hx (j := (3 : Int32)) (v := (.int q3)) (by rw [e0]; exact Ar200.1) (State.isArrayOf_alike hZ.alike Ar200.2.1) Ar200.2.2 hin200 hat200 (g := (mkF m 6 #[.val (.ref a1), .val (.int (3 : Int32)), .val (.int (1 : Int32)), .val (.int (3 : Int32)), .unset, .unset] [(.int (3 : Int32)), (.ref a1)])) rfl rfl (hb hby d3_6) _ k)
    by_cases hc202 : q3 < (0 : Int32)
    · have K203 : ∀ t, Steps p.tables e below (s₁.setTop (mkF m 21 #[.val (.ref a1), .val (.int (3 : Int32)), .val (.int (1 : Int32)), .val (.int (3 : Int32)), .unset, .unset] [(.int (1 : Int32))])) t → Steps p.tables e below G t := by
        intro t k
        refine K201 t ?_
        show Steps p.tables e below (s₁.setTop (mkF m 7 #[.val (.ref a1), .val (.int (3 : Int32)), .val (.int (1 : Int32)), .val (.int (3 : Int32)), .unset, .unset] [(.int q3)])) _
        refine XS.ifYes X0.here hx rfl (pc0 := 7) (pc' := 20) rfl (hb hby d3_7) rfl ((if0 _ _).trans (tlt hc202).1) (by decide) (by decide) ?_
        refine XS.iloadN X0.here hx rfl (hb hby d3_20) rfl ?_
        show Steps p.tables e below (s₁.setTop (mkF m 21 #[.val (.ref a1), .val (.int (3 : Int32)), .val (.int (1 : Int32)), .val (.int (3 : Int32)), .unset, .unset] [(.int (1 : Int32))])) _
        exact k
      obtain ⟨T204, h204, kn204, X204, e204, E204, A204, st204⟩ := newP X0 hx hZ (hw _ (List.mem_of_getElem? (i := 8) rfl)) e0 (g := (mkF m 21 #[.val (.ref a1), .val (.int (3 : Int32)), .val (.int (1 : Int32)), .val (.int (3 : Int32)), .unset, .unset] [(.int (1 : Int32))])) rfl (hb hby d3_21) rfl (by decide) (cap := 1) (by decide) (by decide) (by decide) (by decide)
      obtain ⟨b204, g204⟩ : ∃ z, z = h0.size := ⟨_, rfl⟩
      rw [← g204] at A204 st204
      have ne_a1_b204 : a1 ≠ b204 := Nat.ne_of_lt (Nat.lt_of_lt_of_le V1.lt (Nat.le_of_eq g204.symm))
      have g_b204 : n0 ≤ b204 := Nat.le_trans Z0 (Nat.le_of_eq g204.symm)
      have sz_b204 : h0.size ≤ b204 := Nat.le_trans KP0.1 (Nat.le_of_eq g204.symm)
      have f205 := V1.ext E204
      have Z206 : n0 ≤ h204.size := Nat.le_trans Z0 E204.1
      have KP207 : Keep h0 h204 [] := KP0.ext E204
      have K208 : ∀ t, Steps p.tables e below (T204.setTop (mkF m 23 #[.val (.ref a1), .val (.int (3 : Int32)), .val (.int (1 : Int32)), .val (.int (3 : Int32)), .unset, .unset] [(.ref b204)])) t → Steps p.tables e below G t := fun t k => K203 t (st204 t k)
      have V204 : Arv Z h204 b204 kn204 .int (1 : Int32) [(.int (0 : Int32))] (.int (0 : Int32)) := (Arv.new A204 (by decide)).pad (pad_rep [] (.int (0 : Int32)) 1)
      have K209 : ∀ t, Steps p.tables e below (T204.setTop (mkF m 42 #[.val (.ref a1), .val (.int (3 : Int32)), .val (.int (1 : Int32)), .val (.ref b204), .val (.int (3 : Int32)), .val (.int (0 : Int32))] [(.int (3 : Int32)), (.int (0 : Int32)), (.ref b204)])) t → Steps p.tables e below G t := by
        intro t k
        refine K208 t ?_
        show Steps p.tables e below (T204.setTop (mkF m 23 #[.val (.ref a1), .val (.int (3 : Int32)), .val (.int (1 : Int32)), .val (.int (3 : Int32)), .unset, .unset] [(.ref b204)])) _
        refine XS.astoreN X204.here hx rfl (hb hby d3_23) rfl rfl (l' := #[.val (.ref a1), .val (.int (3 : Int32)), .val (.int (1 : Int32)), .val (.ref b204), .unset, .unset]) rfl ?_
        refine XS.iloadN X204.here hx rfl (hb hby d3_24) rfl ?_
        refine XS.istore X204.here hx rfl (hb hby d3_25) rfl (l' := #[.val (.ref a1), .val (.int (3 : Int32)), .val (.int (1 : Int32)), .val (.ref b204), .val (.int (3 : Int32)), .unset]) rfl ?_
        refine XS.iloadN X204.here hx rfl (hb hby d3_27) rfl ?_
        show Steps p.tables e below (T204.setTop (mkF m 28 #[.val (.ref a1), .val (.int (3 : Int32)), .val (.int (1 : Int32)), .val (.ref b204), .val (.int (3 : Int32)), .unset] [(.int (1 : Int32))])) _
        refine XS.iconst X204.here hx rfl (hb hby d3_28) ?_
        refine XS.isub X204.here hx rfl (hb hby d3_29) rfl ?_
        refine XS.istore X204.here hx rfl (hb hby d3_30) rfl (l' := #[.val (.ref a1), .val (.int (3 : Int32)), .val (.int (1 : Int32)), .val (.ref b204), .val (.int (3 : Int32)), .val (.int (0 : Int32))]) rfl ?_
        refine XS.iload X204.here hx rfl (hb hby d3_32) rfl ?_
        show Steps p.tables e below (T204.setTop (mkF m 34 #[.val (.ref a1), .val (.int (3 : Int32)), .val (.int (1 : Int32)), .val (.ref b204), .val (.int (3 : Int32)), .val (.int (0 : Int32))] [(.int (0 : Int32))])) _
        refine XS.ifNo X204.here hx rfl (hb hby d3_34) rfl ((if0 _ _).trans (flt (by decide)).1) ?_
        refine XS.aloadN X204.here hx rfl (hb hby d3_37) rfl rfl ?_
        refine XS.iload X204.here hx rfl (hb hby d3_38) rfl ?_
        refine XS.iload X204.here hx rfl (hb hby d3_40) rfl ?_
        show Steps p.tables e below (T204.setTop (mkF m 42 #[.val (.ref a1), .val (.int (3 : Int32)), .val (.int (1 : Int32)), .val (.ref b204), .val (.int (3 : Int32)), .val (.int (0 : Int32))] [(.int (3 : Int32)), (.int (0 : Int32)), (.ref b204)])) _
        exact k
      obtain ⟨cl210, Ar210, qc210, S210, M210, Ha210, Ga210⟩ := id V204
      have hin210 : ¬ ((0 : Int32) < 0 ∨ cl210.slots.size ≤ ((0 : Int32)).toNatClampNeg) := inb_of S210 ⟨by decide, by decide⟩
      obtain ⟨T210, h210, X210, e210, W210, st210⟩ := stI X204 hx hZ e204 Ar210 (j := (0 : Int32)) hin210 (g := (mkF m 42 #[.val (.ref a1), .val (.int (3 : Int32)), .val (.int (1 : Int32)), .val (.ref b204), .val (.int (3 : Int32)), .val (.int (0 : Int32))] [(.int (3 : Int32)), (.int (0 : Int32)), (.ref b204)])) rfl rfl (hb hby d3_42)
      have V210 : Arv Z h210 b204 kn204 .int (1 : Int32) [(.int (3 : Int32))] (.int (0 : Int32)) := Arv.set Ar210 qc210 S210 M210 Ha210 Ga210 rfl W210 0 rfl (Nat.le_of_ble_eq_true rfl)
      have K211 : ∀ t, Steps p.tables e below (T210.setTop (mkF m 43 #[.val (.ref a1), .val (.int (3 : Int32)), .val (.int (1 : Int32)), .val (.ref b204), .val (.int (3 : Int32)), .val (.int (0 : Int32))] [])) t → Steps p.tables e below G t := fun t k => K209 t (st210 t k)
      have f212 := f205.other W210 ne_a1_b204
      have Z213 : n0 ≤ h210.size := Nat.le_trans Z206 (Keep.of_wr W210).1
      have KP214 : Keep h0 h210 [] := KP207.wr W210 (Or.inr sz_b204)
      have N215 := Fr.snoc X210 N0 g_b204
      have K216 : ∀ t, Steps p.tables e below (T210.setTop (mkF m 46 #[.val (.ref a1), .val (.int (3 : Int32)), .val (.int (1 : Int32)), .val (.ref b204), .val (.int (3 : Int32)), .val (.int (0 : Int32))] [(.int (3 : Int32)), (.ref a1)])) t → Steps p.tables e below G t := by
        intro t k
        refine K211 t ?_
        show Steps p.tables e below (T210.setTop (mkF m 43 #[.val (.ref a1), .val (.int (3 : Int32)), .val (.int (1 : Int32)), .val (.ref b204), .val (.int (3 : Int32)), .val (.int (0 : Int32))] [])) _
        refine XS.aloadN X210.here hx rfl (hb hby d3_43) rfl rfl ?_
        refine XS.iload X210.here hx rfl (hb hby d3_44) rfl ?_
        show Steps p.tables e below (T210.setTop (mkF m 46 #[.val (.ref a1), .val (.int (3 : Int32)), .val (.int (1 : Int32)), .val (.ref b204), .val (.int (3 : Int32)), .val (.int (0 : Int32))] [(.int (3 : Int32)), (.ref a1)])) _
        exact k
      obtain ⟨cl217, Ar217, qc217, S217, M217, Ha217, Ga217⟩ := id f212
      have hin217 : ¬ ((3 : Int32) < 0 ∨ cl217.slots.size ≤ ((3 : Int32)).toNatClampNeg) := inb_of S217 ⟨by decide, by decide⟩
      have hat217 : cl217.slots[((3 : Int32)).toNatClampNeg]? = some (.int q3) := Ha217.at hin217 rfl
      have K218 : ∀ t, Steps p.tables e below (T210.setTop (mkF m 47 #[.val (.ref a1), .val (.int (3 : Int32)), .val (.int (1 : Int32)), .val (.ref b204), .val (.int (3 : Int32)), .val (.int (0 : Int32))] [(.int q3)])) t → Steps p.tables e below G t := fun t k => K216 t (X210.iaload hx (j := (3 : Int32)) (v := (.int q3)) (by rw [e210]; exact Ar217.1) (State.isArrayOf_alike hZ.alike Ar217.2.1) Ar217.2.2 hin217 hat217 (g := (mkF m 46 #[.val (.ref a1), .val (.int (3 : Int32)), .val (.int (1 : Int32)), .val (.ref b204), .val (.int (3 : Int32)), .val (.int (0 : Int32))] [(.int (3 : Int32)), (.ref a1)])) rfl rfl (hb hby d3_46) _ k)
      obtain ⟨fs, hr, hrun, hended, hW, hsame⟩ := X210.leave (v := some (.ref b204)) (fun h => by rw [Bd.returns] at h; cases h)
      have KF := K218
      rw [hG] at KF
      refine ⟨_, _, KF _ ?_, hrun, hended, _, _, rfl, ?_, ⟨_, rfl⟩, hW, hsame.mono (by decide) (by decide)⟩
      · show Steps p.tables e below (T210.setTop (mkF m 47 #[.val (.ref a1), .val (.int (3 : Int32)), .val (.int (1 : Int32)), .val (.ref b204), .val (.int (3 : Int32)), .val (.int (0 : Int32))] [(.int q3)])) _
        refine XS.istore X210.here hx rfl (hb hby d3_47) rfl (l' := #[.val (.ref a1), .val (.int (3 : Int32)), .val (.int (1 : Int32)), .val (.ref b204), .val (.int q3), .val (.int (0 : Int32))]) rfl ?_
        refine XS.iinc X210.here hx rfl (hb hby d3_49) rfl (l' := #[.val (.ref a1), .val (.int (3 : Int32)), .val (.int (1 : Int32)), .val (.ref b204), .val (.int q3), .val (.int (-1 : Int32))]) rfl ?_
        refine XS.goto X210.here hx rfl (pc0 := 52) (pc' := 32) rfl (hb hby d3_52) (by decide) (by decide) ?_
        refine XS.iload X210.here hx rfl (hb hby d3_32) rfl ?_
        show Steps p.tables e below (T210.setTop (mkF m 34 #[.val (.ref a1), .val (.int (3 : Int32)), .val (.int (1 : Int32)), .val (.ref b204), .val (.int q3), .val (.int (-1 : Int32))] [(.int (-1 : Int32))])) _
        refine XS.ifYes X210.here hx rfl (pc0 := 34) (pc' := 55) rfl (hb hby d3_34) rfl ((if0 _ _).trans (tlt (by decide)).1) (by decide) (by decide) ?_
        refine XS.aloadN X210.here hx rfl (hb hby d3_55) rfl rfl ?_
        show Steps p.tables e below (T210.setTop (mkF m 56 #[.val (.ref a1), .val (.int (3 : Int32)), .val (.int (1 : Int32)), .val (.ref b204), .val (.int q3), .val (.int (-1 : Int32))] [(.ref b204)])) _
        exact own_retA X210 hx Bd.returns rfl rfl rfl (hb hby d3_56) hr
      · show Q3 Z (3 : Int32) [(.int q0), (.int q1), (.int q2), (.int q3), (.int q4)] h0 n0 _ T210.heap _
        rw [e210]
        exact ⟨_, _, _, _, rfl, N215, KP214, sz_b204, V210, ⟨by decide, by decide⟩, ⟨by decide, by decide⟩, rfl, Or.inr ⟨3, q3, 0, by decide, rfl, ⟨by decide, by decide⟩, rfl, Or.inl ⟨rfl, hc202⟩⟩, Or.inl (by decide), Or.inl (by decide), Or.inl (by decide), Or.inl (by decide)⟩
    · have K219 : ∀ t, Steps p.tables e below (s₁.setTop (mkF m 15 #[.val (.ref a1), .val (.int (3 : Int32)), .val (.int (2 : Int32)), .val (.int (3 : Int32)), .unset, .unset] [(.int (3 : Int32)), (.ref a1)])) t → Steps p.tables e below G t := by
        intro t k
        refine K201 t ?_
        show Steps p.tables e below (s₁.setTop (mkF m 7 #[.val (.ref a1), .val (.int (3 : Int32)), .val (.int (1 : Int32)), .val (.int (3 : Int32)), .unset, .unset] [(.int q3)])) _
        refine XS.ifNo X0.here hx rfl (hb hby d3_7) rfl ((if0 _ _).trans (flt hc202).1) ?_
        refine XS.iinc X0.here hx rfl (hb hby d3_10) rfl (l' := #[.val (.ref a1), .val (.int (3 : Int32)), .val (.int (2 : Int32)), .val (.int (3 : Int32)), .unset, .unset]) rfl ?_
        refine XS.aloadN X0.here hx rfl (hb hby d3_13) rfl rfl ?_
        refine XS.iloadN X0.here hx rfl (hb hby d3_14) rfl ?_
        show Steps p.tables e below (s₁.setTop (mkF m 15 #[.val (.ref a1), .val (.int (3 : Int32)), .val (.int (2 : Int32)), .val (.int (3 : Int32)), .unset, .unset] [(.int (3 : Int32)), (.ref a1)])) _
        exact k
      obtain ⟨cl220, Ar220, qc220, S220, M220, Ha220, Ga220⟩ := id V1
      have hin220 : ¬ ((3 : Int32) < 0 ∨ cl220.slots.size ≤ ((3 : Int32)).toNatClampNeg) := inb_of S220 ⟨by decide, by decide⟩
      have hat220 : cl220.slots[((3 : Int32)).toNatClampNeg]? = some (.int q3) := Ha220.at hin220 rfl
      have K221 : ∀ t, Steps p.tables e below (s₁.setTop (mkF m 16 #[.val (.ref a1), .val (.int (3 : Int32)), .val (.int (2 : Int32)), .val (.int (3 : Int32)), .unset, .unset] [(.int q3)])) t → Steps p.tables e below G t := fun t k => K219 t (X0.iaload hx (j := (3 : Int32)) (v := (.int q3)) (by rw [e0]; exact Ar220.1) (State.isArrayOf_alike hZ.alike Ar220.2.1) Ar220.2.2 hin220 hat220 (g := (mkF m 15 #[.val (.ref a1), .val (.int (3 : Int32)), .val (.int (2 : Int32)), .val (.int (3 : Int32)), .unset, .unset] [(.int (3 : Int32)), (.ref a1)])) rfl rfl (hb hby d3_15) _ k)
      have K222 : ∀ t, Steps p.tables e below (s₁.setTop (mkF m 4 #[.val (.ref a1), .val (.int (3 : Int32)), .val (.int (2 : Int32)), .val (.int q3), .unset, .unset] [])) t → Steps p.tables e below G t := by
        intro t k
        refine K221 t ?_
        show Steps p.tables e below (s₁.setTop (mkF m 16 #[.val (.ref a1), .val (.int (3 : Int32)), .val (.int (2 : Int32)), .val (.int (3 : Int32)), .unset, .unset] [(.int q3)])) _
        refine XS.istoreN X0.here hx rfl (hb hby d3_16) rfl (l' := #[.val (.ref a1), .val (.int (3 : Int32)), .val (.int (2 : Int32)), .val (.int q3), .unset, .unset]) rfl ?_
        refine XS.goto X0.here hx rfl (pc0 := 17) (pc' := 4) rfl (hb hby d3_17) (by decide) (by decide) ?_
        show Steps p.tables e below (s₁.setTop (mkF m 4 #[.val (.ref a1), .val (.int (3 : Int32)), .val (.int (2 : Int32)), .val (.int q3), .unset, .unset] [])) _
        exact k
      rcases own_lt3 hc202 hq3 with rfl | rfl | rfl
      · have K223 : ∀ t, Steps p.tables e below (s₁.setTop (mkF m 6 #[.val (.ref a1), .val (.int (3 : Int32)), .val (.int (2 : Int32)), .val (.int (0 : Int32)), .unset, .unset] [(.int (0 : Int32)), (.ref a1)])) t → Steps p.tables e below G t := by
          intro t k
          refine K222 t ?_
          show Steps p.tables e below (s₁.setTop (mkF m 4 #[.val (.ref a1), .val (.int (3 : Int32)), .val (.int (2 : Int32)), .val (.int (0 : Int32)), .unset, .unset] [])) _
          refine XS.aloadN X0.here hx rfl (hb hby d3_4) rfl rfl ?_
          refine XS.iloadN X0.here hx rfl (hb hby d3_5) rfl ?_
          show Steps p.tables e below (s₁.setTop (mkF m 6 #[.val (.ref a1), .val (.int (3 : Int32)), .val (.int (2 : Int32)), .val (.int (0 : Int32)), .unset, .unset] [(.int (0 : Int32)), (.ref a1)])) _
          exact k
        obtain ⟨cl224, Ar224, qc224, S224, M224, Ha224, Ga224⟩ := id V1
        have hin224 : ¬ ((0 : Int32) < 0 ∨ cl224.slots.size ≤ ((0 : Int32)).toNatClampNeg) := inb_of S224 ⟨by decide, by decide⟩
        have hat224 : cl224.slots[((0 : Int32)).toNatClampNeg]? = some (.int q0) := Ha224.at hin224 rfl
        have K225 : ∀ t, Steps p.tables e below (s₁.setTop (mkF m 7 #[.val (.ref a1), .val (.int (3 : Int32)), .val (.int (2 : Int32)), .val (.int (0 : Int32)), .unset, .unset] [(.int q0)])) t → Steps p.tables e below G t := fun t k => K223 t (X0.iaload hx (j := (0 : Int32)) (v := (.int q0)) (by rw [e0]; exact Ar224.1) (State.isArrayOf_alike hZ.alike Ar224.2.1) Ar224.2.2 hin224 hat224 (g := (mkF m 6 #[.val (.ref a1), .val (.int (3 : Int32)), .val (.int (2 : Int32)), .val (.int (0 : Int32)), .unset, .unset] [(.int (0 : Int32)), (.ref a1)])) rfl rfl (hb hby d3_6) _ k)
        have K226 : ∀ t, Steps p.tables e below (s₁.setTop (mkF m 21 #[.val (.ref a1), .val (.int (3 : Int32)), .val (.int (2 : Int32)), .val (.int (0 : Int32)), .unset, .unset] [(.int (2 : Int32))])) t → Steps p.tables e below G t := by
          intro t k
          refine K225 t ?_
          show Steps p.tables e below (s₁.setTop (mkF m 7 #[.val (.ref a1), .val (.int (3 : Int32)), .val (.int (2 : Int32)), .val (.int (0 : Int32)), .unset, .unset] [(.int q0)])) _
          refine XS.ifYes X0.here hx rfl (pc0 := 7) (pc' := 20) rfl (hb hby d3_7) rfl ((if0 _ _).trans (tlt hq0).1) (by decide) (by decide) ?_
          refine XS.iloadN X0.here hx rfl (hb hby d3_20) rfl ?_
          show Steps p.tables e below (s₁.setTop (mkF m 21 #[.val (.ref a1), .val (.int (3 : Int32)), .val (.int (2 : Int32)), .val (.int (0 : Int32)), .unset, .unset] [(.int (2 : Int32))])) _
          exact k
        obtain ⟨T227, h227, kn227, X227, e227, E227, A227, st227⟩ := newP X0 hx hZ (hw _ (List.mem_of_getElem? (i := 8) rfl)) e0 (g := (mkF m 21 #[.val (.ref a1), .val (.int (3 : Int32)), .val (.int (2 : Int32)), .val (.int (0 : Int32)), .unset, .unset] [(.int (2 : Int32))])) rfl (hb hby d3_21) rfl (by decide) (cap := 2) (by decide) (by decide) (by decide) (by decide)
        obtain ⟨b227, g227⟩ : ∃ z, z = h0.size := ⟨_, rfl⟩
        rw [← g227] at A227 st227
        have ne_a1_b227 : a1 ≠ b227 := Nat.ne_of_lt (Nat.lt_of_lt_of_le V1.lt (Nat.le_of_eq g227.symm))
        have g_b227 : n0 ≤ b227 := Nat.le_trans Z0 (Nat.le_of_eq g227.symm)
        have sz_b227 : h0.size ≤ b227 := Nat.le_trans KP0.1 (Nat.le_of_eq g227.symm)
        have f228 := V1.ext E227
        have Z229 : n0 ≤ h227.size := Nat.le_trans Z0 E227.1
        have KP230 : Keep h0 h227 [] := KP0.ext E227
        have K231 : ∀ t, Steps p.tables e below (T227.setTop (mkF m 23 #[.val (.ref a1), .val (.int (3 : Int32)), .val (.int (2 : Int32)), .val (.int (0 : Int32)), .unset, .unset] [(.ref b227)])) t → Steps p.tables e below G t := fun t k => K226 t (st227 t k)
        have V227 : Arv Z h227 b227 kn227 .int (2 : Int32) [(.int (0 : Int32)), (.int (0 : Int32))] (.int (0 : Int32)) := (Arv.new A227 (by decide)).pad (pad_rep [] (.int (0 : Int32)) 2)
        have K232 : ∀ t, Steps p.tables e below (T227.setTop (mkF m 42 #[.val (.ref a1), .val (.int (3 : Int32)), .val (.int (2 : Int32)), .val (.ref b227), .val (.int (3 : Int32)), .val (.int (1 : Int32))] [(.int (3 : Int32)), (.int (1 : Int32)), (.ref b227)])) t → Steps p.tables e below G t := by
          intro t k
          refine K231 t ?_
          show Steps p.tables e below (T227.setTop (mkF m 23 #[.val (.ref a1), .val (.int (3 : Int32)), .val (.int (2 : Int32)), .val (.int (0 : Int32)), .unset, .unset] [(.ref b227)])) _
          refine XS.astoreN X227.here hx rfl (hb hby d3_23) rfl rfl (l' := #[.val (.ref a1), .val (.int (3 : Int32)), .val (.int (2 : Int32)), .val (.ref b227), .unset, .unset]) rfl ?_
          refine XS.iloadN X227.here hx rfl (hb hby d3_24) rfl ?_
          refine XS.istore X227.here hx rfl (hb hby d3_25) rfl (l' := #[.val (.ref a1), .val (.int (3 : Int32)), .val (.int (2 : Int32)), .val (.ref b227), .val (.int (3 : Int32)), .unset]) rfl ?_
          refine XS.iloadN X227.here hx rfl (hb hby d3_27) rfl ?_
          show Steps p.tables e below (T227.setTop (mkF m 28 #[.val (.ref a1), .val (.int (3 : Int32)), .val (.int (2 : Int32)), .val (.ref b227), .val (.int (3 : Int32)), .unset] [(.int (2 : Int32))])) _
          refine XS.iconst X227.here hx rfl (hb hby d3_28) ?_
          refine XS.isub X227.here hx rfl (hb hby d3_29) rfl ?_
          refine XS.istore X227.here hx rfl (hb hby d3_30) rfl (l' := #[.val (.ref a1), .val (.int (3 : Int32)), .val (.int (2 : Int32)), .val (.ref b227), .val (.int (3 : Int32)), .val (.int (1 : Int32))]) rfl ?_
          refine XS.iload X227.here hx rfl (hb hby d3_32) rfl ?_
          show Steps p.tables e below (T227.setTop (mkF m 34 #[.val (.ref a1), .val (.int (3 : Int32)), .val (.int (2 : Int32)), .val (.ref b227), .val (.int (3 : Int32)), .val (.int (1 : Int32))] [(.int (1 : Int32))])) _
          refine XS.ifNo X227.here hx rfl (hb hby d3_34) rfl ((if0 _ _).trans (flt (by decide)).1) ?_
          refine XS.aloadN X227.here hx rfl (hb hby d3_37) rfl rfl ?_
          refine XS.iload X227.here hx rfl (hb hby d3_38) rfl ?_
          refine XS.iload X227.here hx rfl (hb hby d3_40) rfl ?_
          show Steps p.tables e below (T227.setTop (mkF m 42 #[.val (.ref a1), .val (.int (3 : Int32)), .val (.int (2 : Int32)), .val (.ref b227), .val (.int (3 : Int32)), .val (.int (1 : Int32))] [(.int (3 : Int32)), (.int (1 : Int32)), (.ref b227)])) _
          exact k
        obtain ⟨cl233, Ar233, qc233, S233, M233, Ha233, Ga233⟩ := id V227
        have hin233 : ¬ ((1 : Int32) < 0 ∨ cl233.slots.size ≤ ((1 : Int32)).toNatClampNeg) := inb_of S233 ⟨by decide, by decide⟩
        obtain ⟨T233, h233, X233, e233, W233, st233⟩ := stI X227 hx hZ e227 Ar233 (j := (1 : Int32)) hin233 (g := (mkF m 42 #[.val (.ref a1), .val (.int (3 : Int32)), .val (.int (2 : Int32)), .val (.ref b227), .val (.int (3 : Int32)), .val (.int (1 : Int32))] [(.int (3 : Int32)), (.int (1 : Int32)), (.ref b227)])) rfl rfl (hb hby d3_42)
        have V233 : Arv Z h233 b227 kn227 .int (2 : Int32) [(.int (0 : Int32)), (.int (3 : Int32))] (.int (0 : Int32)) := Arv.set Ar233 qc233 S233 M233 Ha233 Ga233 rfl W233 1 rfl (Nat.le_of_ble_eq_true rfl)
        have K234 : ∀ t, Steps p.tables e below (T233.setTop (mkF m 43 #[.val (.ref a1), .val (.int (3 : Int32)), .val (.int (2 : Int32)), .val (.ref b227), .val (.int (3 : Int32)), .val (.int (1 : Int32))] [])) t → Steps p.tables e below G t := fun t k => K232 t (st233 t k)
        have f235 := f228.other W233 ne_a1_b227
        have Z236 : n0 ≤ h233.size := Nat.le_trans Z229 (Keep.of_wr W233).1
        have KP237 : Keep h0 h233 [] := KP230.wr W233 (Or.inr sz_b227)
        have N238 := Fr.snoc X233 N0 g_b227
        have K239 : ∀ t, Steps p.tables e below (T233.setTop (mkF m 46 #[.val (.ref a1), .val (.int (3 : Int32)), .val (.int (2 : Int32)), .val (.ref b227), .val (.int (3 : Int32)), .val (.int (1 : Int32))] [(.int (3 : Int32)), (.ref a1)])) t → Steps p.tables e below G t := by
          intro t k
          refine K234 t ?_
          show Steps p.tables e below (T233.setTop (mkF m 43 #[.val (.ref a1), .val (.int (3 : Int32)), .val (.int (2 : Int32)), .val (.ref b227), .val (.int (3 : Int32)), .val (.int (1 : Int32))] [])) _
          refine XS.aloadN X233.here hx rfl (hb hby d3_43) rfl rfl ?_
          refine XS.iload X233.here hx rfl (hb hby d3_44) rfl ?_
          show Steps p.tables e below (T233.setTop (mkF m 46 #[.val (.ref a1), .val (.int (3 : Int32)), .val (.int (2 : Int32)), .val (.ref b227), .val (.int (3 : Int32)), .val (.int (1 : Int32))] [(.int (3 : Int32)), (.ref a1)])) _
          exact k
        obtain ⟨cl240, Ar240, qc240, S240, M240, Ha240, Ga240⟩ := id f235
        have hin240 : ¬ ((3 : Int32) < 0 ∨ cl240.slots.size ≤ ((3 : Int32)).toNatClampNeg) := inb_of S240 ⟨by decide, by decide⟩
        have hat240 : cl240.slots[((3 : Int32)).toNatClampNeg]? = some (.int (0 : Int32)) := Ha240.at hin240 rfl
        have K241 : ∀ t, Steps p.tables e below (T233.setTop (mkF m 47 #[.val (.ref a1), .val (.int (3 : Int32)), .val (.int (2 : Int32)), .val (.ref b227), .val (.int (3 : Int32)), .val (.int (1 : Int32))] [(.int (0 : Int32))])) t → Steps p.tables e below G t := fun t k => K239 t (X233.iaload hx (j := (3 : Int32)) (v := (.int (0 : Int32))) (by rw [e233]; exact Ar240.1) (State.isArrayOf_alike hZ.alike Ar240.2.1) Ar240.2.2 hin240 hat240 (g := (mkF m 46 #[.val (.ref a1), .val (.int (3 : Int32)), .val (.int (2 : Int32)), .val (.ref b227), .val (.int (3 : Int32)), .val (.int (1 : Int32))] [(.int (3 : Int32)), (.ref a1)])) rfl rfl (hb hby d3_46) _ k)
        have K242 : ∀ t, Steps p.tables e below (T233.setTop (mkF m 42 #[.val (.ref a1), .val (.int (3 : Int32)), .val (.int (2 : Int32)), .val (.ref b227), .val (.int (0 : Int32)), .val (.int (0 : Int32))] [(.int (0 : Int32)), (.int (0 : Int32)), (.ref b227)])) t → Steps p.tables e below G t := by
          intro t k
          refine K241 t ?_
          show Steps p.tables e below (T233.setTop (mkF m 47 #[.val (.ref a1), .val (.int (3 : Int32)), .val (.int (2 : Int32)), .val (.ref b227), .val (.int (3 : Int32)), .val (.int (1 : Int32))] [(.int (0 : Int32))])) _
          refine XS.istore X233.here hx rfl (hb hby d3_47) rfl (l' := #[.val (.ref a1), .val (.int (3 : Int32)), .val (.int (2 : Int32)), .val (.ref b227), .val (.int (0 : Int32)), .val (.int (1 : Int32))]) rfl ?_
          refine XS.iinc X233.here hx rfl (hb hby d3_49) rfl (l' := #[.val (.ref a1), .val (.int (3 : Int32)), .val (.int (2 : Int32)), .val (.ref b227), .val (.int (0 : Int32)), .val (.int (0 : Int32))]) rfl ?_
          refine XS.goto X233.here hx rfl (pc0 := 52) (pc' := 32) rfl (hb hby d3_52) (by decide) (by decide) ?_
          refine XS.iload X233.here hx rfl (hb hby d3_32) rfl ?_
          show Steps p.tables e below (T233.setTop (mkF m 34 #[.val (.ref a1), .val (.int (3 : Int32)), .val (.int (2 : Int32)), .val (.ref b227), .val (.int (0 : Int32)), .val (.int (0 : Int32))] [(.int (0 : Int32))])) _
          refine XS.ifNo X233.here hx rfl (hb hby d3_34) rfl ((if0 _ _).trans (flt (by decide)).1) ?_
          refine XS.aloadN X233.here hx rfl (hb hby d3_37) rfl rfl ?_
          refine XS.iload X233.here hx rfl (hb hby d3_38) rfl ?_
          refine XS.iload X233.here hx rfl (hb hby d3_40) rfl ?_
          show Steps p.tables e below (T233.setTop (mkF m 42 #[.val (.ref a1), .val (.int (3 : Int32)), .val (.int (2 : Int32)), .val (.ref b227), .val (.int (0 : Int32)), .val (.int (0 : Int32))] [(.int (0 : Int32)), (.int (0 : Int32)), (.ref b227)])) _
          exact k
        obtain ⟨cl243, Ar243, qc243, S243, M243, Ha243, Ga243⟩ := id V233
        have hin243 : ¬ ((0 : Int32) < 0 ∨ cl243.slots.size ≤ ((0 : Int32)).toNatClampNeg) := inb_of S243 ⟨by decide, by decide⟩
        obtain ⟨T243, h243, X243, e243, W243, st243⟩ := stI X233 hx hZ e233 Ar243 (j := (0 : Int32)) hin243 (g := (mkF m 42 #[.val (.ref a1), .val (.int (3 : Int32)), .val (.int (2 : Int32)), .val (.ref b227), .val (.int (0 : Int32)), .val (.int (0 : Int32))] [(.int (0 : Int32)), (.int (0 : Int32)), (.ref b227)])) rfl rfl (hb hby d3_42)
        have V243 : Arv Z h243 b227 kn227 .int (2 : Int32) [(.int (0 : Int32)), (.int (3 : Int32))] (.int (0 : Int32)) := Arv.set Ar243 qc243 S243 M243 Ha243 Ga243 rfl W243 0 rfl (Nat.le_of_ble_eq_true rfl)
        have K244 : ∀ t, Steps p.tables e below (T243.setTop (mkF m 43 #[.val (.ref a1), .val (.int (3 : Int32)), .val (.int (2 : Int32)), .val (.ref b227), .val (.int (0 : Int32)), .val (.int (0 : Int32))] [])) t → Steps p.tables e below G t := fun t k => K242 t (st243 t k)
        have f245 := f235.other W243 ne_a1_b227
        have Z246 : n0 ≤ h243.size := Nat.le_trans Z236 (Keep.of_wr W243).1
        have KP247 : Keep h0 h243 [] := KP237.wr W243 (Or.inr sz_b227)
        have N248 := Fr.snoc X243 N238 g_b227
        have K249 : ∀ t, Steps p.tables e below (T243.setTop (mkF m 46 #[.val (.ref a1), .val (.int (3 : Int32)), .val (.int (2 : Int32)), .val (.ref b227), .val (.int (0 : Int32)), .val (.int (0 : Int32))] [(.int (0 : Int32)), (.ref a1)])) t → Steps p.tables e below G t := by
          intro t k
          refine K244 t ?_
          show Steps p.tables e below (T243.setTop (mkF m 43 #[.val (.ref a1), .val (.int (3 : Int32)), .val (.int (2 : Int32)), .val (.ref b227), .val (.int (0 : Int32)), .val (.int (0 : Int32))] [])) _
          refine XS.aloadN X243.here hx rfl (hb hby d3_43) rfl rfl ?_
          refine XS.iload X243.here hx rfl (hb hby d3_44) rfl ?_
          show Steps p.tables e below (T243.setTop (mkF m 46 #[.val (.ref a1), .val (.int (3 : Int32)), .val (.int (2 : Int32)), .val (.ref b227), .val (.int (0 : Int32)), .val (.int (0 : Int32))] [(.int (0 : Int32)), (.ref a1)])) _
          exact k
        obtain ⟨cl250, Ar250, qc250, S250, M250, Ha250, Ga250⟩ := id f245
        have hin250 : ¬ ((0 : Int32) < 0 ∨ cl250.slots.size ≤ ((0 : Int32)).toNatClampNeg) := inb_of S250 ⟨by decide, by decide⟩
        have hat250 : cl250.slots[((0 : Int32)).toNatClampNeg]? = some (.int q0) := Ha250.at hin250 rfl
        have K251 : ∀ t, Steps p.tables e below (T243.setTop (mkF m 47 #[.val (.ref a1), .val (.int (3 : Int32)), .val (.int (2 : Int32)), .val (.ref b227), .val (.int (0 : Int32)), .val (.int (0 : Int32))] [(.int q0)])) t → Steps p.tables e below G t := fun t k => K249 t (X243.iaload hx (j := (0 : Int32)) (v := (.int q0)) (by rw [e243]; exact Ar250.1) (State.isArrayOf_alike hZ.alike Ar250.2.1) Ar250.2.2 hin250 hat250 (g := (mkF m 46 #[.val (.ref a1), .val (.int (3 : Int32)), .val (.int (2 : Int32)), .val (.ref b227), .val (.int (0 : Int32)), .val (.int (0 : Int32))] [(.int (0 : Int32)), (.ref a1)])) rfl rfl (hb hby d3_46) _ k)
        obtain ⟨fs, hr, hrun, hended, hW, hsame⟩ := X243.leave (v := some (.ref b227)) (fun h => by rw [Bd.returns] at h; cases h)
        have KF := K251
        rw [hG] at KF
        refine ⟨_, _, KF _ ?_, hrun, hended, _, _, rfl, ?_, ⟨_, rfl⟩, hW, hsame.mono (by decide) (by decide)⟩
        · show Steps p.tables e below (T243.setTop (mkF m 47 #[.val (.ref a1), .val (.int (3 : Int32)), .val (.int (2 : Int32)), .val (.ref b227), .val (.int (0 : Int32)), .val (.int (0 : Int32))] [(.int q0)])) _
          refine XS.istore X243.here hx rfl (hb hby d3_47) rfl (l' := #[.val (.ref a1), .val (.int (3 : Int32)), .val (.int (2 : Int32)), .val (.ref b227), .val (.int q0), .val (.int (0 : Int32))]) rfl ?_
          refine XS.iinc X243.here hx rfl (hb hby d3_49) rfl (l' := #[.val (.ref a1), .val (.int (3 : Int32)), .val (.int (2 : Int32)), .val (.ref b227), .val (.int q0), .val (.int (-1 : Int32))]) rfl ?_
          refine XS.goto X243.here hx rfl (pc0 := 52) (pc' := 32) rfl (hb hby d3_52) (by decide) (by decide) ?_
          refine XS.iload X243.here hx rfl (hb hby d3_32) rfl ?_
          show Steps p.tables e below (T243.setTop (mkF m 34 #[.val (.ref a1), .val (.int (3 : Int32)), .val (.int (2 : Int32)), .val (.ref b227), .val (.int q0), .val (.int (-1 : Int32))] [(.int (-1 : Int32))])) _
          refine XS.ifYes X243.here hx rfl (pc0 := 34) (pc' := 55) rfl (hb hby d3_34) rfl ((if0 _ _).trans (tlt (by decide)).1) (by decide) (by decide) ?_
          refine XS.aloadN X243.here hx rfl (hb hby d3_55) rfl rfl ?_
          show Steps p.tables e below (T243.setTop (mkF m 56 #[.val (.ref a1), .val (.int (3 : Int32)), .val (.int (2 : Int32)), .val (.ref b227), .val (.int q0), .val (.int (-1 : Int32))] [(.ref b227)])) _
          exact own_retA X243 hx Bd.returns rfl rfl rfl (hb hby d3_56) hr
        · show Q3 Z (3 : Int32) [(.int q0), (.int q1), (.int q2), (.int (0 : Int32)), (.int q4)] h0 n0 _ T243.heap _
          rw [e243]
          exact ⟨_, _, _, _, rfl, N248, KP247, sz_b227, V243, ⟨by decide, by decide⟩, ⟨by decide, by decide⟩, rfl, Or.inr ⟨0, q0, 0, by decide, rfl, ⟨by decide, by decide⟩, rfl, Or.inl ⟨rfl, hq0⟩⟩, Or.inr ⟨3, 0, 0, by decide, rfl, ⟨by decide, by decide⟩, rfl, Or.inr ⟨by decide, ⟨by decide, by decide⟩, rfl, rfl⟩⟩, Or.inl (by decide), Or.inl (by decide), Or.inl (by decide)⟩
      · have K252 : ∀ t, Steps p.tables e below (s₁.setTop (mkF m 6 #[.val (.ref a1), .val (.int (3 : Int32)), .val (.int (2 : Int32)), .val (.int (1 : Int32)), .unset, .unset] [(.int (1 : Int32)), (.ref a1)])) t → Steps p.tables e below G t := by
          intro t k
          refine K222 t ?_
          show Steps p.tables e below (s₁.setTop (mkF m 4 #[.val (.ref a1), .val (.int (3 : Int32)), .val (.int (2 : Int32)), .val (.int (1 : Int32)), .unset, .unset] [])) _
          refine XS.aloadN X0.here hx rfl (hb hby d3_4) rfl rfl ?_
          refine XS.iloadN X0.here hx rfl (hb hby d3_5) rfl ?_
          show Steps p.tables e below (s₁.setTop (mkF m 6 #[.val (.ref a1), .val (.int (3 : Int32)), .val (.int (2 : Int32)), .val (.int (1 : Int32)), .unset, .unset] [(.int (1 : Int32)), (.ref a1)])) _
          exact k
        obtain ⟨cl253, Ar253, qc253, S253, M253, Ha253, Ga253⟩ := id V1
        have hin253 : ¬ ((1 : Int32) < 0 ∨ cl253.slots.size ≤ ((1 : Int32)).toNatClampNeg) := inb_of S253 ⟨by decide, by decide⟩
        have hat253 : cl253.slots[((1 : Int32)).toNatClampNeg]? = some (.int q1) := Ha253.at hin253 rfl
        have K254 : ∀ t, Steps p.tables e below (s₁.setTop (mkF m 7 #[.val (.ref a1), .val (.int (3 : Int32)), .val (.int (2 : Int32)), .val (.int (1 : Int32)), .unset, .unset] [(.int q1)])) t → Steps p.tables e below G t := fun t k => K252 t (X0.iaload hx (j := (1 : Int32)) (v := (.int q1)) (by rw [e0]; exact Ar253.1) (State.isArrayOf_alike hZ.alike Ar253.2.1) Ar253.2.2 hin253 hat253 (g := (mkF m 6 #[.val (.ref a1), .val (.int (3 : Int32)), .val (.int (2 : Int32)), .val (.int (1 : Int32)), .unset, .unset] [(.int (1 : Int32)), (.ref a1)])) rfl rfl (hb hby d3_6) _ k)
        by_cases hc255 : q1 < (0 : Int32)
        · have K256 : ∀ t, Steps p.tables e below (s₁.setTop (mkF m 21 #[.val (.ref a1), .val (.int (3 : Int32)), .val (.int (2 : Int32)), .val (.int (1 : Int32)), .unset, .unset] [(.int (2 : Int32))])) t → Steps p.tables e below G t := by
            intro t k
            refine K254 t ?_
            show Steps p.tables e below (s₁.setTop (mkF m 7 #[.val (.ref a1), .val (.int (3 : Int32)), .val (.int (2 : Int32)), .val (.int (1 : Int32)), .unset, .unset] [(.int q1)])) _
            refine XS.ifYes X0.here hx rfl (pc0 := 7) (pc' := 20) rfl (hb hby d3_7) rfl ((if0 _ _).trans (tlt hc255).1) (by decide) (by decide) ?_
            refine XS.iloadN X0.here hx rfl (hb hby d3_20) rfl ?_
            show Steps p.tables e below (s₁.setTop (mkF m 21 #[.val (.ref a1), .val (.int (3 : Int32)), .val (.int (2 : Int32)), .val (.int (1 : Int32)), .unset, .unset] [(.int (2 : Int32))])) _
            exact k
          obtain ⟨T257, h257, kn257, X257, e257, E257, A257, st257⟩ := newP X0 hx hZ (hw _ (List.mem_of_getElem? (i := 8) rfl)) e0 (g := (mkF m 21 #[.val (.ref a1), .val (.int (3 : Int32)), .val (.int (2 : Int32)), .val (.int (1 : Int32)), .unset, .unset] [(.int (2 : Int32))])) rfl (hb hby d3_21) rfl (by decide) (cap := 2) (by decide) (by decide) (by decide) (by decide)
          obtain ⟨b257, g257⟩ : ∃ z, z = h0.size := ⟨_, rfl⟩
          rw [← g257] at A257 st257
          have ne_a1_b257 : a1 ≠ b257 := Nat.ne_of_lt (Nat.lt_of_lt_of_le V1.lt (Nat.le_of_eq g257.symm))
          have g_b257 : n0 ≤ b257 := Nat.le_trans Z0 (Nat.le_of_eq g257.symm)
          have sz_b257 : h0.size ≤ b257 := Nat.le_trans KP0.1 (Nat.le_of_eq g257.symm)
          have f258 := V1.ext E257
          have Z259 : n0 ≤ h257.size := Nat.le_trans Z0 E257.1
          have KP260 : Keep h0 h257 [] := KP0.ext E257
          have K261 : ∀ t, Steps p.tables e below (T257.setTop (mkF m 23 #[.val (.ref a1), .val (.int (3 : Int32)), .val (.int (2 : Int32)), .val (.int (1 : Int32)), .unset, .unset] [(.ref b257)])) t → Steps p.tables e below G t := fun t k => K256 t (st257 t k)
          have V257 : Arv Z h257 b257 kn257 .int (2 : Int32) [(.int (0 : Int32)), (.int (0 : Int32))] (.int (0 : Int32)) := (Arv.new A257 (by decide)).pad (pad_rep [] (.int (0 : Int32)) 2)
          have K262 : ∀ t, Steps p.tables e below (T257.setTop (mkF m 42 #[.val (.ref a1), .val (.int (3 : Int32)), .val (.int (2 : Int32)), .val (.ref b257), .val (.int (3 : Int32)), .val (.int (1 : Int32))] [(.int (3 : Int32)), (.int (1 : Int32)), (.ref b257)])) t → Steps p.tables e below G t := by
            intro t k
            refine K261 t ?_
            show Steps p.tables e below (T257.setTop (mkF m 23 #[.val (.ref a1), .val (.int (3 : Int32)), .val (.int (2 : Int32)), .val (.int (1 : Int32)), .unset, .unset] [(.ref b257)])) _
            refine XS.astoreN X257.here hx rfl (hb hby d3_23) rfl rfl (l' := #[.val (.ref a1), .val (.int (3 : Int32)), .val (.int (2 : Int32)), .val (.ref b257), .unset, .unset]) rfl ?_
            refine XS.iloadN X257.here hx rfl (hb hby d3_24) rfl ?_
            refine XS.istore X257.here hx rfl (hb hby d3_25) rfl (l' := #[.val (.ref a1), .val (.int (3 : Int32)), .val (.int (2 : Int32)), .val (.ref b257), .val (.int (3 : Int32)), .unset]) rfl ?_
            refine XS.iloadN X257.here hx rfl (hb hby d3_27) rfl ?_
            show Steps p.tables e below (T257.setTop (mkF m 28 #[.val (.ref a1), .val (.int (3 : Int32)), .val (.int (2 : Int32)), .val (.ref b257), .val (.int (3 : Int32)), .unset] [(.int (2 : Int32))])) _
            refine XS.iconst X257.here hx rfl (hb hby d3_28) ?_
            refine XS.isub X257.here hx rfl (hb hby d3_29) rfl ?_
            refine XS.istore X257.here hx rfl (hb hby d3_30) rfl (l' := #[.val (.ref a1), .val (.int (3 : Int32)), .val (.int (2 : Int32)), .val (.ref b257), .val (.int (3 : Int32)), .val (.int (1 : Int32))]) rfl ?_
            refine XS.iload X257.here hx rfl (hb hby d3_32) rfl ?_
            show Steps p.tables e below (T257.setTop (mkF m 34 #[.val (.ref a1), .val (.int (3 : Int32)), .val (.int (2 : Int32)), .val (.ref b257), .val (.int (3 : Int32)), .val (.int (1 : Int32))] [(.int (1 : Int32))])) _
            refine XS.ifNo X257.here hx rfl (hb hby d3_34) rfl ((if0 _ _).trans (flt (by decide)).1) ?_
            refine XS.aloadN X257.here hx rfl (hb hby d3_37) rfl rfl ?_
            refine XS.iload X257.here hx rfl (hb hby d3_38) rfl ?_
            refine XS.iload X257.here hx rfl (hb hby d3_40) rfl ?_
            show Steps p.tables e below (T257.setTop (mkF m 42 #[.val (.ref a1), .val (.int (3 : Int32)), .val (.int (2 : Int32)), .val (.ref b257), .val (.int (3 : Int32)), .val (.int (1 : Int32))] [(.int (3 : Int32)), (.int (1 : Int32)), (.ref b257)])) _
            exact k
          obtain ⟨cl263, Ar263, qc263, S263, M263, Ha263, Ga263⟩ := id V257
          have hin263 : ¬ ((1 : Int32) < 0 ∨ cl263.slots.size ≤ ((1 : Int32)).toNatClampNeg) := inb_of S263 ⟨by decide, by decide⟩
          obtain ⟨T263, h263, X263, e263, W263, st263⟩ := stI X257 hx hZ e257 Ar263 (j := (1 : Int32)) hin263 (g := (mkF m 42 #[.val (.ref a1), .val (.int (3 : Int32)), .val (.int (2 : Int32)), .val (.ref b257), .val (.int (3 : Int32)), .val (.int (1 : Int32))] [(.int (3 : Int32)), (.int (1 : Int32)), (.ref b257)])) rfl rfl (hb hby d3_42)
          have V263 : Arv Z h263 b257 kn257 .int (2 : Int32) [(.int (0 : Int32)), (.int (3 : Int32))] (.int (0 : Int32)) := Arv.set Ar263 qc263 S263 M263 Ha263 Ga263 rfl W263 1 rfl (Nat.le_of_ble_eq_true rfl)
          have K264 : ∀ t, Steps p.tables e below (T263.setTop (mkF m 43 #[.val (.ref a1), .val (.int (3 : Int32)), .val (.int (2 : Int32)), .val (.ref b257), .val (.int (3 : Int32)), .val (.int (1 : Int32))] [])) t → Steps p.tables e below G t := fun t k => K262 t (st263 t k)
          have f265 := f258.other W263 ne_a1_b257
          have Z266 : n0 ≤ h263.size := Nat.le_trans Z259 (Keep.of_wr W263).1
          have KP267 : Keep h0 h263 [] := KP260.wr W263 (Or.inr sz_b257)
          have N268 := Fr.snoc X263 N0 g_b257
          have K269 : ∀ t, Steps p.tables e below (T263.setTop (mkF m 46 #[.val (.ref a1), .val (.int (3 : Int32)), .val (.int (2 : Int32)), .val (.ref b257), .val (.int (3 : Int32)), .val (.int (1 : Int32))] [(.int (3 : Int32)), (.ref a1)])) t → Steps p.tables e below G t := by
            intro t k
            refine K264 t ?_
            show Steps p.tables e below (T263.setTop (mkF m 43 #[.val (.ref a1), .val (.int (3 : Int32)), .val (.int (2 : Int32)), .val (.ref b257), .val (.int (3 : Int32)), .val (.int (1 : Int32))] [])) _
            refine XS.aloadN X263.here hx rfl (hb hby d3_43) rfl rfl ?_
            refine XS.iload X263.here hx rfl (hb hby d3_44) rfl ?_
            show Steps p.tables e below (T263.setTop (mkF m 46 #[.val (.ref a1), .val (.int (3 : Int32)), .val (.int (2 : Int32)), .val (.ref b257), .val (.int (3 : Int32)), .val (.int (1 : Int32))] [(.int (3 : Int32)), (.ref a1)])) _
            exact k
          obtain ⟨cl270, Ar270, qc270, S270, M270, Ha270, Ga270⟩ := id f265
          have hin270 : ¬ ((3 : Int32) < 0 ∨ cl270.slots.size ≤ ((3 : Int32)).toNatClampNeg) := inb_of S270 ⟨by decide, by decide⟩
          have hat270 : cl270.slots[((3 : Int32)).toNatClampNeg]? = some (.int (1 : Int32)) := Ha270.at hin270 rfl
          have K271 : ∀ t, Steps p.tables e below (T263.setTop (mkF m 47 #[.val (.ref a1), .val (.int (3 : Int32)), .val (.int (2 : Int32)), .val (.ref b257), .val (.int (3 : Int32)), .val (.int (1 : Int32))] [(.int (1 : Int32))])) t → Steps p.tables e below G t := fun t k => K269 t (X263.iaload hx (j := (3 : Int32)) (v := (.int (1 : Int32))) (by rw [e263]; exact Ar270.1) (State.isArrayOf_alike hZ.alike Ar270.2.1) Ar270.2.2 hin270 hat270 (g := (mkF m 46 #[.val (.ref a1), .val (.int (3 : Int32)), .val (.int (2 : Int32)), .val (.ref b257), .val (.int (3 : Int32)), .val (.int (1 : Int32))] [(.int (3 : Int32)), (.ref a1)])) rfl rfl (hb hby d3_46) _ k)
          have K272 : ∀ t, Steps p.tables e below (T263.setTop (mkF m 42 #[.val (.ref a1), .val (.int (3 : Int32)), .val (.int (2 : Int32)), .val (.ref b257), .val (.int (1 : Int32)), .val (.int (0 : Int32))] [(.int (1 : Int32)), (.int (0 : Int32)), (.ref b257)])) t → Steps p.tables e below G t := by
            intro t k
            refine K271 t ?_
            show Steps p.tables e below (T263.setTop (mkF m 47 #[.val (.ref a1), .val (.int (3 : Int32)), .val (.int (2 : Int32)), .val (.ref b257), .val (.int (3 : Int32)), .val (.int (1 : Int32))] [(.int (1 : Int32))])) _
            refine XS.istore X263.here hx rfl (hb hby d3_47) rfl (l' := #[.val (.ref a1), .val (.int (3 : Int32)), .val (.int (2 : Int32)), .val (.ref b257), .val (.int (1 : Int32)), .val (.int (1 : Int32))]) rfl ?_
            refine XS.iinc X263.here hx rfl (hb hby d3_49) rfl (l' := #[.val (.ref a1), .val (.int (3 : Int32)), .val (.int (2 : Int32)), .val (.ref b257), .val (.int (1 : Int32)), .val (.int (0 : Int32))]) rfl ?_
            refine XS.goto X263.here hx rfl (pc0 := 52) (pc' := 32) rfl (hb hby d3_52) (by decide) (by decide) ?_
            refine XS.iload X263.here hx rfl (hb hby d3_32) rfl ?_
            show Steps p.tables e below (T263.setTop (mkF m 34 #[.val (.ref a1), .val (.int (3 : Int32)), .val (.int (2 : Int32)), .val (.ref b257), .val (.int (1 : Int32)), .val (.int (0 : Int32))] [(.int (0 : Int32))])) _
            refine XS.ifNo X263.here hx rfl (hb hby d3_34) rfl ((if0 _ _).trans (flt (by decide)).1) ?_
            refine XS.aloadN X263.here hx rfl (hb hby d3_37) rfl rfl ?_
            refine XS.iload X263.here hx rfl (hb hby d3_38) rfl ?_
            refine XS.iload X263.here hx rfl (hb hby d3_40) rfl ?_
            show Steps p.tables e below (T263.setTop (mkF m 42 #[.val (.ref a1), .val (.int (3 : Int32)), .val (.int (2 : Int32)), .val (.ref b257), .val (.int (1 : Int32)), .val (.int (0 : Int32))] [(.int (1 : Int32)), (.int (0 : Int32)), (.ref b257)])) _
            exact k
          obtain ⟨cl273, Ar273, qc273, S273, M273, Ha273, Ga273⟩ := id V263
          have hin273 : ¬ ((0 : Int32) < 0 ∨ cl273.slots.size ≤ ((0 : Int32)).toNatClampNeg) := inb_of S273 ⟨by decide, by decide⟩
          obtain ⟨T273, h273, X273, e273, W273, st273⟩ := stI X263 hx hZ e263 Ar273 (j := (0 : Int32)) hin273 (g := (mkF m 42 #[.val (.ref a1), .val (.int (3 : Int32)), .val (.int (2 : Int32)), .val (.ref b257), .val (.int (1 : Int32)), .val (.int (0 : Int32))] [(.int (1 : Int32)), (.int (0 : Int32)), (.ref b257)])) rfl rfl (hb hby d3_42)
          have V273 : Arv Z h273 b257 kn257 .int (2 : Int32) [(.int (1 : Int32)), (.int (3 : Int32))] (.int (0 : Int32)) := Arv.set Ar273 qc273 S273 M273 Ha273 Ga273 rfl W273 0 rfl (Nat.le_of_ble_eq_true rfl)
          have K274 : ∀ t, Steps p.tables e below (T273.setTop (mkF m 43 #[.val (.ref a1), .val (.int (3 : Int32)), .val (.int (2 : Int32)), .val (.ref b257), .val (.int (1 : Int32)), .val (.int (0 : Int32))] [])) t → Steps p.tables e below G t := fun t k => K272 t (st273 t k)
          have f275 := f265.other W273 ne_a1_b257
          have Z276 : n0 ≤ h273.size := Nat.le_trans Z266 (Keep.of_wr W273).1
          have KP277 : Keep h0 h273 [] := KP267.wr W273 (Or.inr sz_b257)
          have N278 := Fr.snoc X273 N268 g_b257
          have K279 : ∀ t, Steps p.tables e below (T273.setTop (mkF m 46 #[.val (.ref a1), .val (.int (3 : Int32)), .val (.int (2 : Int32)), .val (.ref b257), .val (.int (1 : Int32)), .val (.int (0 : Int32))] [(.int (1 : Int32)), (.ref a1)])) t → Steps p.tables e below G t := by
            intro t k
            refine K274 t ?_
            show Steps p.tables e below (T273.setTop (mkF m 43 #[.val (.ref a1), .val (.int (3 : Int32)), .val (.int (2 : Int32)), .val (.ref b257), .val (.int (1 : Int32)), .val (.int (0 : Int32))] [])) _
            refine XS.aloadN X273.here hx rfl (hb hby d3_43) rfl rfl ?_
            refine XS.iload X273.here hx rfl (hb hby d3_44) rfl ?_
            show Steps p.tables e below (T273.setTop (mkF m 46 #[.val (.ref a1), .val (.int (3 : Int32)), .val (.int (2 : Int32)), .val (.ref b257), .val (.int (1 : Int32)), .val (.int (0 : Int32))] [(.int (1 : Int32)), (.ref a1)])) _
            exact k
          obtain ⟨cl280, Ar280, qc280, S280, M280, Ha280, Ga280⟩ := id f275
          have hin280 : ¬ ((1 : Int32) < 0 ∨ cl280.slots.size ≤ ((1 : Int32)).toNatClampNeg) := inb_of S280 ⟨by decide, by decide⟩
          have hat280 : cl280.slots[((1 : Int32)).toNatClampNeg]? = some (.int q1) := Ha280.at hin280 rfl
          have K281 : ∀ t, Steps p.tables e below (T273.setTop (mkF m 47 #[.val (.ref a1), .val (.int (3 : Int32)), .val (.int (2 : Int32)), .val (.ref b257), .val (.int (1 : Int32)), .val (.int (0 : Int32))] [(.int q1)])) t → Steps p.tables e below G t := fun t k => K279 t (X273.iaload hx (j := (1 : Int32)) (v := (.int q1)) (by rw [e273]; exact Ar280.1) (State.isArrayOf_alike hZ.alike Ar280.2.1) Ar280.2.2 hin280 hat280 (g := (mkF m 46 #[.val (.ref a1), .val (.int (3 : Int32)), .val (.int (2 : Int32)), .val (.ref b257), .val (.int (1 : Int32)), .val (.int (0 : Int32))] [(.int (1 : Int32)), (.ref a1)])) rfl rfl (hb hby d3_46) _ k)
          obtain ⟨fs, hr, hrun, hended, hW, hsame⟩ := X273.leave (v := some (.ref b257)) (fun h => by rw [Bd.returns] at h; cases h)
          have KF := K281
          rw [hG] at KF
          refine ⟨_, _, KF _ ?_, hrun, hended, _, _, rfl, ?_, ⟨_, rfl⟩, hW, hsame.mono (by decide) (by decide)⟩
          · show Steps p.tables e below (T273.setTop (mkF m 47 #[.val (.ref a1), .val (.int (3 : Int32)), .val (.int (2 : Int32)), .val (.ref b257), .val (.int (1 : Int32)), .val (.int (0 : Int32))] [(.int q1)])) _
            refine XS.istore X273.here hx rfl (hb hby d3_47) rfl (l' := #[.val (.ref a1), .val (.int (3 : Int32)), .val (.int (2 : Int32)), .val (.ref b257), .val (.int q1), .val (.int (0 : Int32))]) rfl ?_
            refine XS.iinc X273.here hx rfl (hb hby d3_49) rfl (l' := #[.val (.ref a1), .val (.int (3 : Int32)), .val (.int (2 : Int32)), .val (.ref b257), .val (.int q1), .val (.int (-1 : Int32))]) rfl ?_
            refine XS.goto X273.here hx rfl (pc0 := 52) (pc' := 32) rfl (hb hby d3_52) (by decide) (by decide) ?_
            refine XS.iload X273.here hx rfl (hb hby d3_32) rfl ?_
            show Steps p.tables e below (T273.setTop (mkF m 34 #[.val (.ref a1), .val (.int (3 : Int32)), .val (.int (2 : Int32)), .val (.ref b257), .val (.int q1), .val (.int (-1 : Int32))] [(.int (-1 : Int32))])) _
            refine XS.ifYes X273.here hx rfl (pc0 := 34) (pc' := 55) rfl (hb hby d3_34) rfl ((if0 _ _).trans (tlt (by decide)).1) (by decide) (by decide) ?_
            refine XS.aloadN X273.here hx rfl (hb hby d3_55) rfl rfl ?_
            show Steps p.tables e below (T273.setTop (mkF m 56 #[.val (.ref a1), .val (.int (3 : Int32)), .val (.int (2 : Int32)), .val (.ref b257), .val (.int q1), .val (.int (-1 : Int32))] [(.ref b257)])) _
            exact own_retA X273 hx Bd.returns rfl rfl rfl (hb hby d3_56) hr
          · show Q3 Z (3 : Int32) [(.int q0), (.int q1), (.int q2), (.int (1 : Int32)), (.int q4)] h0 n0 _ T273.heap _
            rw [e273]
            exact ⟨_, _, _, _, rfl, N278, KP277, sz_b257, V273, ⟨by decide, by decide⟩, ⟨by decide, by decide⟩, rfl, Or.inr ⟨1, q1, 0, by decide, rfl, ⟨by decide, by decide⟩, rfl, Or.inl ⟨rfl, hc255⟩⟩, Or.inr ⟨3, 1, 1, by decide, rfl, ⟨by decide, by decide⟩, rfl, Or.inr ⟨by decide, ⟨by decide, by decide⟩, rfl, rfl⟩⟩, Or.inl (by decide), Or.inl (by decide), Or.inl (by decide)⟩
        · have K282 : ∀ t, Steps p.tables e below (s₁.setTop (mkF m 15 #[.val (.ref a1), .val (.int (3 : Int32)), .val (.int (3 : Int32)), .val (.int (1 : Int32)), .unset, .unset] [(.int (1 : Int32)), (.ref a1)])) t → Steps p.tables e below G t := by
            intro t k
            refine K254 t ?_
            show Steps p.tables e below (s₁.setTop (mkF m 7 #[.val (.ref a1), .val (.int (3 : Int32)), .val (.int (2 : Int32)), .val (.int (1 : Int32)), .unset, .unset] [(.int q1)])) _
            refine XS.ifNo X0.here hx rfl (hb hby d3_7) rfl ((if0 _ _).trans (flt hc255).1) ?_
            refine XS.iinc X0.here hx rfl (hb hby d3_10) rfl (l' := #[.val (.ref a1), .val (.int (3 : Int32)), .val (.int (3 : Int32)), .val (.int (1 : Int32)), .unset, .unset]) rfl ?_
            refine XS.aloadN X0.here hx rfl (hb hby d3_13) rfl rfl ?_
            refine XS.iloadN X0.here hx rfl (hb hby d3_14) rfl ?_
            show Steps p.tables e below (s₁.setTop (mkF m 15 #[.val (.ref a1), .val (.int (3 : Int32)), .val (.int (3 : Int32)), .val (.int (1 : Int32)), .unset, .unset] [(.int (1 : Int32)), (.ref a1)])) _
            exact k
          obtain ⟨cl283, Ar283, qc283, S283, M283, Ha283, Ga283⟩ := id V1
          have hin283 : ¬ ((1 : Int32) < 0 ∨ cl283.slots.size ≤ ((1 : Int32)).toNatClampNeg) := inb_of S283 ⟨by decide, by decide⟩
          have hat283 : cl283.slots[((1 : Int32)).toNatClampNeg]? = some (.int q1) := Ha283.at hin283 rfl
          have K284 : ∀ t, Steps p.tables e below (s₁.setTop (mkF m 16 #[.val (.ref a1), .val (.int (3 : Int32)), .val (.int (3 : Int32)), .val (.int (1 : Int32)), .unset, .unset] [(.int q1)])) t → Steps p.tables e below G t := fun t k => K282 t (X0.iaload hx (j := (1 : Int32)) (v := (.int q1)) (by rw [e0]; exact Ar283.1) (State.isArrayOf_alike hZ.alike Ar283.2.1) Ar283.2.2 hin283 hat283 (g := (mkF m 15 #[.val (.ref a1), .val (.int (3 : Int32)), .val (.int (3 : Int32)), .val (.int (1 : Int32)), .unset, .unset] [(.int (1 : Int32)), (.ref a1)])) rfl rfl (hb hby d3_15) _ k)
          have K285 : ∀ t, Steps p.tables e below (s₁.setTop (mkF m 4 #[.val (.ref a1), .val (.int (3 : Int32)), .val (.int (3 : Int32)), .val (.int q1), .unset, .unset] [])) t → Steps p.tables e below G t := by
            intro t k
            refine K284 t ?_
            show Steps p.tables e below (s₁.setTop (mkF m 16 #[.val (.ref a1), .val (.int (3 : Int32)), .val (.int (3 : Int32)), .val (.int (1 : Int32)), .unset, .unset] [(.int q1)])) _
            refine XS.istoreN X0.here hx rfl (hb hby d3_16) rfl (l' := #[.val (.ref a1), .val (.int (3 : Int32)), .val (.int (3 : Int32)), .val (.int q1), .unset, .unset]) rfl ?_
            refine XS.goto X0.here hx rfl (pc0 := 17) (pc' := 4) rfl (hb hby d3_17) (by decide) (by decide) ?_
            show Steps p.tables e below (s₁.setTop (mkF m 4 #[.val (.ref a1), .val (.int (3 : Int32)), .val (.int (3 : Int32)), .val (.int q1), .unset, .unset] [])) _
            exact k
          obtain rfl := own_lt1 hc255 hq1
          · have K286 : ∀ t, Steps p.tables e below (s₁.setTop (mkF m 6 #[.val (.ref a1), .val (.int (3 : Int32)), .val (.int (3 : Int32)), .val (.int (0 : Int32)), .unset, .unset] [(.int (0 : Int32)), (.ref a1)])) t → Steps p.tables e below G t := by
              intro t k
              refine K285 t ?_
              show Steps p.tables e below (s₁.setTop (mkF m 4 #[.val (.ref a1), .val (.int (3 : Int32)), .val (.int (3 : Int32)), .val (.int (0 : Int32)), .unset, .unset] [])) _
              refine XS.aloadN X0.here hx rfl (hb hby d3_4) rfl rfl ?_
              refine XS.iloadN X0.here hx rfl (hb hby d3_5) rfl ?_
              show Steps p.tables e below (s₁.setTop (mkF m 6 #[.val (.ref a1), .val (.int (3 : Int32)), .val (.int (3 : Int32)), .val (.int (0 : Int32)), .unset, .unset] [(.int (0 : Int32)), (.ref a1)])) _
              exact k
            obtain ⟨cl287, Ar287, qc287, S287, M287, Ha287, Ga287⟩ := id V1
            have hin287 : ¬ ((0 : Int32) < 0 ∨ cl287.slots.size ≤ ((0 : Int32)).toNatClampNeg) := inb_of S287 ⟨by decide, by decide⟩
            have hat287 : cl287.slots[((0 : Int32)).toNatClampNeg]? = some (.int q0) := Ha287.at hin287 rfl
            have K288 : ∀ t, Steps p.tables e below (s₁.setTop (mkF m 7 #[.val (.ref a1), .val (.int (3 : Int32)), .val (.int (3 : Int32)), .val (.int (0 : Int32)), .unset, .unset] [(.int q0)])) t → Steps p.tables e below G t := fun t k => K286 t (X0.iaload hx (j := (0 : Int32)) (v := (.int q0)) (by rw [e0]; exact Ar287.1) (State.isArrayOf_alike hZ.alike Ar287.2.1) Ar287.2.2 hin287 hat287 (g := (mkF m 6 #[.val (.ref a1), .val (.int (3 : Int32)), .val (.int (3 : Int32)), .val (.int (0 : Int32)), .unset, .unset] [(.int (0 : Int32)), (.ref a1)])) rfl rfl (hb hby d3_6) _ k)
            have K289 : ∀ t, Steps p.tables e below (s₁.setTop (mkF m 21 #[.val (.ref a1), .val (.int (3 : Int32)), .val (.int (3 : Int32)), .val (.int (0 : Int32)), .unset, .unset] [(.int (3 : Int32))])) t → Steps p.tables e below G t := by
              intro t k
              refine K288 t ?_
              show Steps p.tables e below (s₁.setTop (mkF m 7 #[.val (.ref a1), .val (.int (3 : Int32)), .val (.int (3 : Int32)), .val (.int (0 : Int32)), .unset, .unset] [(.int q0)])) _
              refine XS.ifYes X0.here hx rfl (pc0 := 7) (pc' := 20) rfl (hb hby d3_7) rfl ((if0 _ _).trans (tlt hq0).1) (by decide) (by decide) ?_
              refine XS.iloadN X0.here hx rfl (hb hby d3_20) rfl ?_
              show Steps p.tables e below (s₁.setTop (mkF m 21 #[.val (.ref a1), .val (.int (3 : Int32)), .val (.int (3 : Int32)), .val (.int (0 : Int32)), .unset, .unset] [(.int (3 : Int32))])) _
              exact k
            obtain ⟨T290, h290, kn290, X290, e290, E290, A290, st290⟩ := newP X0 hx hZ (hw _ (List.mem_of_getElem? (i := 8) rfl)) e0 (g := (mkF m 21 #[.val (.ref a1), .val (.int (3 : Int32)), .val (.int (3 : Int32)), .val (.int (0 : Int32)), .unset, .unset] [(.int (3 : Int32))])) rfl (hb hby d3_21) rfl (by decide) (cap := 3) (by decide) (by decide) (by decide) (by decide)
            obtain ⟨b290, g290⟩ : ∃ z, z = h0.size := ⟨_, rfl⟩
            rw [← g290] at A290 st290
            have ne_a1_b290 : a1 ≠ b290 := Nat.ne_of_lt (Nat.lt_of_lt_of_le V1.lt (Nat.le_of_eq g290.symm))
            have g_b290 : n0 ≤ b290 := Nat.le_trans Z0 (Nat.le_of_eq g290.symm)
            have sz_b290 : h0.size ≤ b290 := Nat.le_trans KP0.1 (Nat.le_of_eq g290.symm)
            have f291 := V1.ext E290
            have Z292 : n0 ≤ h290.size := Nat.le_trans Z0 E290.1
            have KP293 : Keep h0 h290 [] := KP0.ext E290
            have K294 : ∀ t, Steps p.tables e below (T290.setTop (mkF m 23 #[.val (.ref a1), .val (.int (3 : Int32)), .val (.int (3 : Int32)), .val (.int (0 : Int32)), .unset, .unset] [(.ref b290)])) t → Steps p.tables e below G t := fun t k => K289 t (st290 t k)
            have V290 : Arv Z h290 b290 kn290 .int (3 : Int32) [(.int (0 : Int32)), (.int (0 : Int32)), (.int (0 : Int32))] (.int (0 : Int32)) := (Arv.new A290 (by decide)).pad (pad_rep [] (.int (0 : Int32)) 3)
            have K295 : ∀ t, Steps p.tables e below (T290.setTop (mkF m 42 #[.val (.ref a1), .val (.int (3 : Int32)), .val (.int (3 : Int32)), .val (.ref b290), .val (.int (3 : Int32)), .val (.int (2 : Int32))] [(.int (3 : Int32)), (.int (2 : Int32)), (.ref b290)])) t → Steps p.tables e below G t := by
              intro t k
              refine K294 t ?_
              show Steps p.tables e below (T290.setTop (mkF m 23 #[.val (.ref a1), .val (.int (3 : Int32)), .val (.int (3 : Int32)), .val (.int (0 : Int32)), .unset, .unset] [(.ref b290)])) _
              refine XS.astoreN X290.here hx rfl (hb hby d3_23) rfl rfl (l' := #[.val (.ref a1), .val (.int (3 : Int32)), .val (.int (3 : Int32)), .val (.ref b290), .unset, .unset]) rfl ?_
              refine XS.iloadN X290.here hx rfl (hb hby d3_24) rfl ?_
              refine XS.istore X290.here hx rfl (hb hby d3_25) rfl (l' := #[.val (.ref a1), .val (.int (3 : Int32)), .val (.int (3 : Int32)), .val (.ref b290), .val (.int (3 : Int32)), .unset]) rfl ?_
              refine XS.iloadN X290.here hx rfl (hb hby d3_27) rfl ?_
              show Steps p.tables e below (T290.setTop (mkF m 28 #[.val (.ref a1), .val (.int (3 : Int32)), .val (.int (3 : Int32)), .val (.ref b290), .val (.int (3 : Int32)), .unset] [(.int (3 : Int32))])) _
              refine XS.iconst X290.here hx rfl (hb hby d3_28) ?_
              refine XS.isub X290.here hx rfl (hb hby d3_29) rfl ?_
              refine XS.istore X290.here hx rfl (hb hby d3_30) rfl (l' := #[.val (.ref a1), .val (.int (3 : Int32)), .val (.int (3 : Int32)), .val (.ref b290), .val (.int (3 : Int32)), .val (.int (2 : Int32))]) rfl ?_
              refine XS.iload X290.here hx rfl (hb hby d3_32) rfl ?_
              show Steps p.tables e below (T290.setTop (mkF m 34 #[.val (.ref a1), .val (.int (3 : Int32)), .val (.int (3 : Int32)), .val (.ref b290), .val (.int (3 : Int32)), .val (.int (2 : Int32))] [(.int (2 : Int32))])) _
              refine XS.ifNo X290.here hx rfl (hb hby d3_34) rfl ((if0 _ _).trans (flt (by decide)).1) ?_
              refine XS.aloadN X290.here hx rfl (hb hby d3_37) rfl rfl ?_
              refine XS.iload X290.here hx rfl (hb hby d3_38) rfl ?_
              refine XS.iload X290.here hx rfl (hb hby d3_40) rfl ?_
              show Steps p.tables e below (T290.setTop (mkF m 42 #[.val (.ref a1), .val (.int (3 : Int32)), .val (.int (3 : Int32)), .val (.ref b290), .val (.int (3 : Int32)), .val (.int (2 : Int32))] [(.int (3 : Int32)), (.int (2 : Int32)), (.ref b290)])) _
              exact k
            obtain ⟨cl296, Ar296, qc296, S296, M296, Ha296, Ga296⟩ := id V290
            have hin296 : ¬ ((2 : Int32) < 0 ∨ cl296.slots.size ≤ ((2 : Int32)).toNatClampNeg) := inb_of S296 ⟨by decide, by decide⟩
            obtain ⟨T296, h296, X296, e296, W296, st296⟩ := stI X290 hx hZ e290 Ar296 (j := (2 : Int32)) hin296 (g := (mkF m 42 #[.val (.ref a1), .val (.int (3 : Int32)), .val (.int (3 : Int32)), .val (.ref b290), .val (.int (3 : Int32)), .val (.int (2 : Int32))] [(.int (3 : Int32)), (.int (2 : Int32)), (.ref b290)])) rfl rfl (hb hby d3_42)
            have V296 : Arv Z h296 b290 kn290 .int (3 : Int32) [(.int (0 : Int32)), (.int (0 : Int32)), (.int (3 : Int32))] (.int (0 : Int32)) := Arv.set Ar296 qc296 S296 M296 Ha296 Ga296 rfl W296 2 rfl (Nat.le_of_ble_eq_true rfl)
            have K297 : ∀ t, Steps p.tables e below (T296.setTop (mkF m 43 #[.val (.ref a1), .val (.int (3 : Int32)), .val (.int (3 : Int32)), .val (.ref b290), .val (.int (3 : Int32)), .val (.int (2 : Int32))] [])) t → Steps p.tables e below G t := fun t k => K295 t (st296 t k)
            have f298 := f291.other W296 ne_a1_b290
            have Z299 : n0 ≤ h296.size := Nat.le_trans Z292 (Keep.of_wr W296).1
            have KP300 : Keep h0 h296 [] := KP293.wr W296 (Or.inr sz_b290)
            have N301 := Fr.snoc X296 N0 g_b290
            have K302 : ∀ t, Steps p.tables e below (T296.setTop (mkF m 46 #[.val (.ref a1), .val (.int (3 : Int32)), .val (.int (3 : Int32)), .val (.ref b290), .val (.int (3 : Int32)), .val (.int (2 : Int32))] [(.int (3 : Int32)), (.ref a1)])) t → Steps p.tables e below G t := by
              intro t k
              refine K297 t ?_
              show Steps p.tables e below (T296.setTop (mkF m 43 #[.val (.ref a1), .val (.int (3 : Int32)), .val (.int (3 : Int32)), .val (.ref b290), .val (.int (3 : Int32)), .val (.int (2 : Int32))] [])) _
              refine XS.aloadN X296.here hx rfl (hb hby d3_43) rfl rfl ?_
              refine XS.iload X296.here hx rfl (hb hby d3_44) rfl ?_
              show Steps p.tables e below (T296.setTop (mkF m 46 #[.val (.ref a1), .val (.int (3 : Int32)), .val (.int (3 : Int32)), .val (.ref b290), .val (.int (3 : Int32)), .val (.int (2 : Int32))] [(.int (3 : Int32)), (.ref a1)])) _
              exact k
            obtain ⟨cl303, Ar303, qc303, S303, M303, Ha303, Ga303⟩ := id f298
            have hin303 : ¬ ((3 : Int32) < 0 ∨ cl303.slots.size ≤ ((3 : Int32)).toNatClampNeg) := inb_of S303 ⟨by decide, by decide⟩
            have hat303 : cl303.slots[((3 : Int32)).toNatClampNeg]? = some (.int (1 : Int32)) := Ha303.at hin303 rfl
            have K304 : ∀ t, Steps p.tables e below (T296.setTop (mkF m 47 #[.val (.ref a1), .val (.int (3 : Int32)), .val (.int (3 : Int32)), .val (.ref b290), .val (.int (3 : Int32)), .val (.int (2 : Int32))] [(.int (1 : Int32))])) t → Steps p.tables e below G t := fun t k => K302 t (X296.iaload hx (j := (3 : Int32)) (v := (.int (1 : Int32))) (by rw [e296]; exact Ar303.1) (State.isArrayOf_alike hZ.alike Ar303.2.1) Ar303.2.2 hin303 hat303 (g := (mkF m 46 #[.val (.ref a1), .val (.int (3 : Int32)), .val (.int (3 : Int32)), .val (.ref b290), .val (.int (3 : Int32)), .val (.int (2 : Int32))] [(.int (3 : Int32)), (.ref a1)])) rfl rfl (hb hby d3_46) _ k)
            have K305 : ∀ t, Steps p.tables e below (T296.setTop (mkF m 42 #[.val (.ref a1), .val (.int (3 : Int32)), .val (.int (3 : Int32)), .val (.ref b290), .val (.int (1 : Int32)), .val (.int (1 : Int32))] [(.int (1 : Int32)), (.int (1 : Int32)), (.ref b290)])) t → Steps p.tables e below G t := by
              intro t k
              refine K304 t ?_
              show Steps p.tables e below (T296.setTop (mkF m 47 #[.val (.ref a1), .val (.int (3 : Int32)), .val (.int (3 : Int32)), .val (.ref b290), .val (.int (3 : Int32)), .val (.int (2 : Int32))] [(.int (1 : Int32))])) _
              refine XS.istore X296.here hx rfl (hb hby d3_47) rfl (l' := #[.val (.ref a1), .val (.int (3 : Int32)), .val (.int (3 : Int32)), .val (.ref b290), .val (.int (1 : Int32)), .val (.int (2 : Int32))]) rfl ?_
              refine XS.iinc X296.here hx rfl (hb hby d3_49) rfl (l' := #[.val (.ref a1), .val (.int (3 : Int32)), .val (.int (3 : Int32)), .val (.ref b290), .val (.int (1 : Int32)), .val (.int (1 : Int32))]) rfl ?_
              refine XS.goto X296.here hx rfl (pc0 := 52) (pc' := 32) rfl (hb hby d3_52) (by decide) (by decide) ?_
              refine XS.iload X296.here hx rfl (hb hby d3_32) rfl ?_
              show Steps p.tables e below (T296.setTop (mkF m 34 #[.val (.ref a1), .val (.int (3 : Int32)), .val (.int (3 : Int32)), .val (.ref b290), .val (.int (1 : Int32)), .val (.int (1 : Int32))] [(.int (1 : Int32))])) _
              refine XS.ifNo X296.here hx rfl (hb hby d3_34) rfl ((if0 _ _).trans (flt (by decide)).1) ?_
              refine XS.aloadN X296.here hx rfl (hb hby d3_37) rfl rfl ?_
              refine XS.iload X296.here hx rfl (hb hby d3_38) rfl ?_
              refine XS.iload X296.here hx rfl (hb hby d3_40) rfl ?_
              show Steps p.tables e below (T296.setTop (mkF m 42 #[.val (.ref a1), .val (.int (3 : Int32)), .val (.int (3 : Int32)), .val (.ref b290), .val (.int (1 : Int32)), .val (.int (1 : Int32))] [(.int (1 : Int32)), (.int (1 : Int32)), (.ref b290)])) _
              exact k
            obtain ⟨cl306, Ar306, qc306, S306, M306, Ha306, Ga306⟩ := id V296
            have hin306 : ¬ ((1 : Int32) < 0 ∨ cl306.slots.size ≤ ((1 : Int32)).toNatClampNeg) := inb_of S306 ⟨by decide, by decide⟩
            obtain ⟨T306, h306, X306, e306, W306, st306⟩ := stI X296 hx hZ e296 Ar306 (j := (1 : Int32)) hin306 (g := (mkF m 42 #[.val (.ref a1), .val (.int (3 : Int32)), .val (.int (3 : Int32)), .val (.ref b290), .val (.int (1 : Int32)), .val (.int (1 : Int32))] [(.int (1 : Int32)), (.int (1 : Int32)), (.ref b290)])) rfl rfl (hb hby d3_42)
            have V306 : Arv Z h306 b290 kn290 .int (3 : Int32) [(.int (0 : Int32)), (.int (1 : Int32)), (.int (3 : Int32))] (.int (0 : Int32)) := Arv.set Ar306 qc306 S306 M306 Ha306 Ga306 rfl W306 1 rfl (Nat.le_of_ble_eq_true rfl)
            have K307 : ∀ t, Steps p.tables e below (T306.setTop (mkF m 43 #[.val (.ref a1), .val (.int (3 : Int32)), .val (.int (3 : Int32)), .val (.ref b290), .val (.int (1 : Int32)), .val (.int (1 : Int32))] [])) t → Steps p.tables e below G t := fun t k => K305 t (st306 t k)
            have f308 := f298.other W306 ne_a1_b290
            have Z309 : n0 ≤ h306.size := Nat.le_trans Z299 (Keep.of_wr W306).1
            have KP310 : Keep h0 h306 [] := KP300.wr W306 (Or.inr sz_b290)
            have N311 := Fr.snoc X306 N301 g_b290
            have K312 : ∀ t, Steps p.tables e below (T306.setTop (mkF m 46 #[.val (.ref a1), .val (.int (3 : Int32)), .val (.int (3 : Int32)), .val (.ref b290), .val (.int (1 : Int32)), .val (.int (1 : Int32))] [(.int (1 : Int32)), (.ref a1)])) t → Steps p.tables e below G t := by
              intro t k
              refine K307 t ?_
              show Steps p.tables e below (T306.setTop (mkF m 43 #[.val (.ref a1), .val (.int (3 : Int32)), .val (.int (3 : Int32)), .val (.ref b290), .val (.int (1 : Int32)), .val (.int (1 : Int32))] [])) _
              refine XS.aloadN X306.here hx rfl (hb hby d3_43) rfl rfl ?_
              refine XS.iload X306.here hx rfl (hb hby d3_44) rfl ?_
              show Steps p.tables e below (T306.setTop (mkF m 46 #[.val (.ref a1), .val (.int (3 : Int32)), .val (.int (3 : Int32)), .val (.ref b290), .val (.int (1 : Int32)), .val (.int (1 : Int32))] [(.int (1 : Int32)), (.ref a1)])) _
              exact k
            obtain ⟨cl313, Ar313, qc313, S313, M313, Ha313, Ga313⟩ := id f308
            have hin313 : ¬ ((1 : Int32) < 0 ∨ cl313.slots.size ≤ ((1 : Int32)).toNatClampNeg) := inb_of S313 ⟨by decide, by decide⟩
            have hat313 : cl313.slots[((1 : Int32)).toNatClampNeg]? = some (.int (0 : Int32)) := Ha313.at hin313 rfl
            have K314 : ∀ t, Steps p.tables e below (T306.setTop (mkF m 47 #[.val (.ref a1), .val (.int (3 : Int32)), .val (.int (3 : Int32)), .val (.ref b290), .val (.int (1 : Int32)), .val (.int (1 : Int32))] [(.int (0 : Int32))])) t → Steps p.tables e below G t := fun t k => K312 t (X306.iaload hx (j := (1 : Int32)) (v := (.int (0 : Int32))) (by rw [e306]; exact Ar313.1) (State.isArrayOf_alike hZ.alike Ar313.2.1) Ar313.2.2 hin313 hat313 (g := (mkF m 46 #[.val (.ref a1), .val (.int (3 : Int32)), .val (.int (3 : Int32)), .val (.ref b290), .val (.int (1 : Int32)), .val (.int (1 : Int32))] [(.int (1 : Int32)), (.ref a1)])) rfl rfl (hb hby d3_46) _ k)
            have K315 : ∀ t, Steps p.tables e below (T306.setTop (mkF m 42 #[.val (.ref a1), .val (.int (3 : Int32)), .val (.int (3 : Int32)), .val (.ref b290), .val (.int (0 : Int32)), .val (.int (0 : Int32))] [(.int (0 : Int32)), (.int (0 : Int32)), (.ref b290)])) t → Steps p.tables e below G t := by
              intro t k
              refine K314 t ?_
              show Steps p.tables e below (T306.setTop (mkF m 47 #[.val (.ref a1), .val (.int (3 : Int32)), .val (.int (3 : Int32)), .val (.ref b290), .val (.int (1 : Int32)), .val (.int (1 : Int32))] [(.int (0 : Int32))])) _
              refine XS.istore X306.here hx rfl (hb hby d3_47) rfl (l' := #[.val (.ref a1), .val (.int (3 : Int32)), .val (.int (3 : Int32)), .val (.ref b290), .val (.int (0 : Int32)), .val (.int (1 : Int32))]) rfl ?_
              refine XS.iinc X306.here hx rfl (hb hby d3_49) rfl (l' := #[.val (.ref a1), .val (.int (3 : Int32)), .val (.int (3 : Int32)), .val (.ref b290), .val (.int (0 : Int32)), .val (.int (0 : Int32))]) rfl ?_
              refine XS.goto X306.here hx rfl (pc0 := 52) (pc' := 32) rfl (hb hby d3_52) (by decide) (by decide) ?_
              refine XS.iload X306.here hx rfl (hb hby d3_32) rfl ?_
              show Steps p.tables e below (T306.setTop (mkF m 34 #[.val (.ref a1), .val (.int (3 : Int32)), .val (.int (3 : Int32)), .val (.ref b290), .val (.int (0 : Int32)), .val (.int (0 : Int32))] [(.int (0 : Int32))])) _
              refine XS.ifNo X306.here hx rfl (hb hby d3_34) rfl ((if0 _ _).trans (flt (by decide)).1) ?_
              refine XS.aloadN X306.here hx rfl (hb hby d3_37) rfl rfl ?_
              refine XS.iload X306.here hx rfl (hb hby d3_38) rfl ?_
              refine XS.iload X306.here hx rfl (hb hby d3_40) rfl ?_
              show Steps p.tables e below (T306.setTop (mkF m 42 #[.val (.ref a1), .val (.int (3 : Int32)), .val (.int (3 : Int32)), .val (.ref b290), .val (.int (0 : Int32)), .val (.int (0 : Int32))] [(.int (0 : Int32)), (.int (0 : Int32)), (.ref b290)])) _
              exact k
            obtain ⟨cl316, Ar316, qc316, S316, M316, Ha316, Ga316⟩ := id V306
            have hin316 : ¬ ((0 : Int32) < 0 ∨ cl316.slots.size ≤ ((0 : Int32)).toNatClampNeg) := inb_of S316 ⟨by decide, by decide⟩
            obtain ⟨T316, h316, X316, e316, W316, st316⟩ := stI X306 hx hZ e306 Ar316 (j := (0 : Int32)) hin316 (g := (mkF m 42 #[.val (.ref a1), .val (.int (3 : Int32)), .val (.int (3 : Int32)), .val (.ref b290), .val (.int (0 : Int32)), .val (.int (0 : Int32))] [(.int (0 : Int32)), (.int (0 : Int32)), (.ref b290)])) rfl rfl (hb hby d3_42)
            have V316 : Arv Z h316 b290 kn290 .int (3 : Int32) [(.int (0 : Int32)), (.int (1 : Int32)), (.int (3 : Int32))] (.int (0 : Int32)) := Arv.set Ar316 qc316 S316 M316 Ha316 Ga316 rfl W316 0 rfl (Nat.le_of_ble_eq_true rfl)
            have K317 : ∀ t, Steps p.tables e below (T316.setTop (mkF m 43 #[.val (.ref a1), .val (.int (3 : Int32)), .val (.int (3 : Int32)), .val (.ref b290), .val (.int (0 : Int32)), .val (.int (0 : Int32))] [])) t → Steps p.tables e below G t := fun t k => K315 t (st316 t k)
            have f318 := f308.other W316 ne_a1_b290
            have Z319 : n0 ≤ h316.size := Nat.le_trans Z309 (Keep.of_wr W316).1
            have KP320 : Keep h0 h316 [] := KP310.wr W316 (Or.inr sz_b290)
            have N321 := Fr.snoc X316 N311 g_b290
            have K322 : ∀ t, Steps p.tables e below (T316.setTop (mkF m 46 #[.val (.ref a1), .val (.int (3 : Int32)), .val (.int (3 : Int32)), .val (.ref b290), .val (.int (0 : Int32)), .val (.int (0 : Int32))] [(.int (0 : Int32)), (.ref a1)])) t → Steps p.tables e below G t := by
              intro t k
              refine K317 t ?_
              show Steps p.tables e below (T316.setTop (mkF m 43 #[.val (.ref a1), .val (.int (3 : Int32)), .val (.int (3 : Int32)), .val (.ref b290), .val (.int (0 : Int32)), .val (.int (0 : Int32))] [])) _
              refine XS.aloadN X316.here hx rfl (hb hby d3_43) rfl rfl ?_
              refine XS.iload X316.here hx rfl (hb hby d3_44) rfl ?_
              show Steps p.tables e below (T316.setTop (mkF m 46 #[.val (.ref a1), .val (.int (3 : Int32)), .val (.int (3 : Int32)), .val (.ref b290), .val (.int (0 : Int32)), .val (.int (0 : Int32))] [(.int (0 : Int32)), (.ref a1)])) _
              exact k
            obtain ⟨cl323, Ar323, qc323, S323, M323, Ha323, Ga323⟩ := id f318
            have hin323 : ¬ ((0 : Int32) < 0 ∨ cl323.slots.size ≤ ((0 : Int32)).toNatClampNeg) := inb_of S323 ⟨by decide, by decide⟩
            have hat323 : cl323.slots[((0 : Int32)).toNatClampNeg]? = some (.int q0) := Ha323.at hin323 rfl
            have K324 : ∀ t, Steps p.tables e below (T316.setTop (mkF m 47 #[.val (.ref a1), .val (.int (3 : Int32)), .val (.int (3 : Int32)), .val (.ref b290), .val (.int (0 : Int32)), .val (.int (0 : Int32))] [(.int q0)])) t → Steps p.tables e below G t := fun t k => K322 t (X316.iaload hx (j := (0 : Int32)) (v := (.int q0)) (by rw [e316]; exact Ar323.1) (State.isArrayOf_alike hZ.alike Ar323.2.1) Ar323.2.2 hin323 hat323 (g := (mkF m 46 #[.val (.ref a1), .val (.int (3 : Int32)), .val (.int (3 : Int32)), .val (.ref b290), .val (.int (0 : Int32)), .val (.int (0 : Int32))] [(.int (0 : Int32)), (.ref a1)])) rfl rfl (hb hby d3_46) _ k)
            obtain ⟨fs, hr, hrun, hended, hW, hsame⟩ := X316.leave (v := some (.ref b290)) (fun h => by rw [Bd.returns] at h; cases h)
            have KF := K324
            rw [hG] at KF
            refine ⟨_, _, KF _ ?_, hrun, hended, _, _, rfl, ?_, ⟨_, rfl⟩, hW, hsame.mono (by decide) (by decide)⟩
            · show Steps p.tables e below (T316.setTop (mkF m 47 #[.val (.ref a1), .val (.int (3 : Int32)), .val (.int (3 : Int32)), .val (.ref b290), .val (.int (0 : Int32)), .val (.int (0 : Int32))] [(.int q0)])) _
              refine XS.istore X316.here hx rfl (hb hby d3_47) rfl (l' := #[.val (.ref a1), .val (.int (3 : Int32)), .val (.int (3 : Int32)), .val (.ref b290), .val (.int q0), .val (.int (0 : Int32))]) rfl ?_
              refine XS.iinc X316.here hx rfl (hb hby d3_49) rfl (l' := #[.val (.ref a1), .val (.int (3 : Int32)), .val (.int (3 : Int32)), .val (.ref b290), .val (.int q0), .val (.int (-1 : Int32))]) rfl ?_
              refine XS.goto X316.here hx rfl (pc0 := 52) (pc' := 32) rfl (hb hby d3_52) (by decide) (by decide) ?_
              refine XS.iload X316.here hx rfl (hb hby d3_32) rfl ?_
              show Steps p.tables e below (T316.setTop (mkF m 34 #[.val (.ref a1), .val (.int (3 : Int32)), .val (.int (3 : Int32)), .val (.ref b290), .val (.int q0), .val (.int (-1 : Int32))] [(.int (-1 : Int32))])) _
              refine XS.ifYes X316.here hx rfl (pc0 := 34) (pc' := 55) rfl (hb hby d3_34) rfl ((if0 _ _).trans (tlt (by decide)).1) (by decide) (by decide) ?_
              refine XS.aloadN X316.here hx rfl (hb hby d3_55) rfl rfl ?_
              show Steps p.tables e below (T316.setTop (mkF m 56 #[.val (.ref a1), .val (.int (3 : Int32)), .val (.int (3 : Int32)), .val (.ref b290), .val (.int q0), .val (.int (-1 : Int32))] [(.ref b290)])) _
              exact own_retA X316 hx Bd.returns rfl rfl rfl (hb hby d3_56) hr
            · show Q3 Z (3 : Int32) [(.int q0), (.int (0 : Int32)), (.int q2), (.int (1 : Int32)), (.int q4)] h0 n0 _ T316.heap _
              rw [e316]
              exact ⟨_, _, _, _, rfl, N321, KP320, sz_b290, V316, ⟨by decide, by decide⟩, ⟨by decide, by decide⟩, rfl, Or.inr ⟨0, q0, 0, by decide, rfl, ⟨by decide, by decide⟩, rfl, Or.inl ⟨rfl, hq0⟩⟩, Or.inr ⟨1, 0, 0, by decide, rfl, ⟨by decide, by decide⟩, rfl, Or.inr ⟨by decide, ⟨by decide, by decide⟩, rfl, rfl⟩⟩, Or.inr ⟨3, 1, 1, by decide, rfl, ⟨by decide, by decide⟩, rfl, Or.inr ⟨by decide, ⟨by decide, by decide⟩, rfl, rfl⟩⟩, Or.inl (by decide), Or.inl (by decide)⟩
      · have K325 : ∀ t, Steps p.tables e below (s₁.setTop (mkF m 6 #[.val (.ref a1), .val (.int (3 : Int32)), .val (.int (2 : Int32)), .val (.int (2 : Int32)), .unset, .unset] [(.int (2 : Int32)), (.ref a1)])) t → Steps p.tables e below G t := by
          intro t k
          refine K222 t ?_
          show Steps p.tables e below (s₁.setTop (mkF m 4 #[.val (.ref a1), .val (.int (3 : Int32)), .val (.int (2 : Int32)), .val (.int (2 : Int32)), .unset, .unset] [])) _
          refine XS.aloadN X0.here hx rfl (hb hby d3_4) rfl rfl ?_
          refine XS.iloadN X0.here hx rfl (hb hby d3_5) rfl ?_
          show Steps p.tables e below (s₁.setTop (mkF m 6 #[.val (.ref a1), .val (.int (3 : Int32)), .val (.int (2 : Int32)), .val (.int (2 : Int32)), .unset, .unset] [(.int (2 : Int32)), (.ref a1)])) _
          exact k
        obtain ⟨cl326, Ar326, qc326, S326, M326, Ha326, Ga326⟩ := id V1
        have hin326 : ¬ ((2 : Int32) < 0 ∨ cl326.slots.size ≤ ((2 : Int32)).toNatClampNeg) := inb_of S326 ⟨by decide, by decide⟩
        have hat326 : cl326.slots[((2 : Int32)).toNatClampNeg]? = some (.int q2) := Ha326.at hin326 rfl
        have K327 : ∀ t, Steps p.tables e below (s₁.setTop (mkF m 7 #[.val (.ref a1), .val (.int (3 : Int32)), .val (.int (2 : Int32)), .val (.int (2 : Int32)), .unset, .unset] [(.int q2)])) t → Steps p.tables e below G t := fun t k => K325 t (X0.iaload hx (j := (2 : Int32)) (v := (.int q2)) (by rw [e0]; exact Ar326.1) (State.isArrayOf_alike hZ.alike Ar326.2.1) Ar326.2.2 hin326 hat326 (g := (mkF m 6 #[.val (.ref a1), .val (.int (3 : Int32)), .val (.int (2 : Int32)), .val (.int (2 : Int32)), .unset, .unset] [(.int (2 : Int32)), (.ref a1)])) rfl rfl (hb hby d3_6) _ k)
        by_cases hc328 : q2 < (0 : Int32)
        · have K329 : ∀ t, Steps p.tables e below (s₁.setTop (mkF m 21 #[.val (.ref a1), .val (.int (3 : Int32)), .val (.int (2 : Int32)), .val (.int (2 : Int32)), .unset, .unset] [(.int (2 : Int32))])) t → Steps p.tables e below G t := by
            intro t k
            refine K327 t ?_
            show Steps p.tables e below (s₁.setTop (mkF m 7 #[.val (.ref a1), .val (.int (3 : Int32)), .val (.int (2 : Int32)), .val (.int (2 : Int32)), .unset, .unset] [(.int q2)])) _
            refine XS.ifYes X0.here hx rfl (pc0 := 7) (pc' := 20) rfl (hb hby d3_7) rfl ((if0 _ _).trans (tlt hc328).1) (by decide) (by decide) ?_
            refine XS.iloadN X0.here hx rfl (hb hby d3_20) rfl ?_
            show Steps p.tables e below (s₁.setTop (mkF m 21 #[.val (.ref a1), .val (.int (3 : Int32)), .val (.int (2 : Int32)), .val (.int (2 : Int32)), .unset, .unset] [(.int (2 : Int32))])) _
            exact k
          obtain ⟨T330, h330, kn330, X330, e330, E330, A330, st330⟩ := newP X0 hx hZ (hw _ (List.mem_of_getElem? (i := 8) rfl)) e0 (g := (mkF m 21 #[.val (.ref a1), .val (.int (3 : Int32)), .val (.int (2 : Int32)), .val (.int (2 : Int32)), .unset, .unset] [(.int (2 : Int32))])) rfl (hb hby d3_21) rfl (by decide) (cap := 2) (by decide) (by decide) (by decide) (by decide)
          obtain ⟨b330, g330⟩ : ∃ z, z = h0.size := ⟨_, rfl⟩
          rw [← g330] at A330 st330
          have ne_a1_b330 : a1 ≠ b330 := Nat.ne_of_lt (Nat.lt_of_lt_of_le V1.lt (Nat.le_of_eq g330.symm))
          have g_b330 : n0 ≤ b330 := Nat.le_trans Z0 (Nat.le_of_eq g330.symm)
          have sz_b330 : h0.size ≤ b330 := Nat.le_trans KP0.1 (Nat.le_of_eq g330.symm)
          have f331 := V1.ext E330
          have Z332 : n0 ≤ h330.size := Nat.le_trans Z0 E330.1
          have KP333 : Keep h0 h330 [] := KP0.ext E330
          have K334 : ∀ t, Steps p.tables e below (T330.setTop (mkF m 23 #[.val (.ref a1), .val (.int (3 : Int32)), .val (.int (2 : Int32)), .val (.int (2 : Int32)), .unset, .unset] [(.ref b330)])) t → Steps p.tables e below G t := fun t k => K329 t (st330 t k)
          have V330 : Arv Z h330 b330 kn330 .int (2 : Int32) [(.int (0 : Int32)), (.int (0 : Int32))] (.int (0 : Int32)) := (Arv.new A330 (by decide)).pad (pad_rep [] (.int (0 : Int32)) 2)
          have K335 : ∀ t, Steps p.tables e below (T330.setTop (mkF m 42 #[.val (.ref a1), .val (.int (3 : Int32)), .val (.int (2 : Int32)), .val (.ref b330), .val (.int (3 : Int32)), .val (.int (1 : Int32))] [(.int (3 : Int32)), (.int (1 : Int32)), (.ref b330)])) t → Steps p.tables e below G t := by
            intro t k
            refine K334 t ?_
            show Steps p.tables e below (T330.setTop (mkF m 23 #[.val (.ref a1), .val (.int (3 : Int32)), .val (.int (2 : Int32)), .val (.int (2 : Int32)), .unset, .unset] [(.ref b330)])) _
            refine XS.astoreN X330.here hx rfl (hb hby d3_23) rfl rfl (l' := #[.val (.ref a1), .val (.int (3 : Int32)), .val (.int (2 : Int32)), .val (.ref b330), .unset, .unset]) rfl ?_
            refine XS.iloadN X330.here hx rfl (hb hby d3_24) rfl ?_
            refine XS.istore X330.here hx rfl (hb hby d3_25) rfl (l' := #[.val (.ref a1), .val (.int (3 : Int32)), .val (.int (2 : Int32)), .val (.ref b330), .val (.int (3 : Int32)), .unset]) rfl ?_
            refine XS.iloadN X330.here hx rfl (hb hby d3_27) rfl ?_
            show Steps p.tables e below (T330.setTop (mkF m 28 #[.val (.ref a1), .val (.int (3 : Int32)), .val (.int (2 : Int32)), .val (.ref b330), .val (.int (3 : Int32)), .unset] [(.int (2 : Int32))])) _
            refine XS.iconst X330.here hx rfl (hb hby d3_28) ?_
            refine XS.isub X330.here hx rfl (hb hby d3_29) rfl ?_
            refine XS.istore X330.here hx rfl (hb hby d3_30) rfl (l' := #[.val (.ref a1), .val (.int (3 : Int32)), .val (.int (2 : Int32)), .val (.ref b330), .val (.int (3 : Int32)), .val (.int (1 : Int32))]) rfl ?_
            refine XS.iload X330.here hx rfl (hb hby d3_32) rfl ?_
            show Steps p.tables e below (T330.setTop (mkF m 34 #[.val (.ref a1), .val (.int (3 : Int32)), .val (.int (2 : Int32)), .val (.ref b330), .val (.int (3 : Int32)), .val (.int (1 : Int32))] [(.int (1 : Int32))])) _
            refine XS.ifNo X330.here hx rfl (hb hby d3_34) rfl ((if0 _ _).trans (flt (by decide)).1) ?_
            refine XS.aloadN X330.here hx rfl (hb hby d3_37) rfl rfl ?_
            refine XS.iload X330.here hx rfl (hb hby d3_38) rfl ?_
            refine XS.iload X330.here hx rfl (hb hby d3_40) rfl ?_
            show Steps p.tables e below (T330.setTop (mkF m 42 #[.val (.ref a1), .val (.int (3 : Int32)), .val (.int (2 : Int32)), .val (.ref b330), .val (.int (3 : Int32)), .val (.int (1 : Int32))] [(.int (3 : Int32)), (.int (1 : Int32)), (.ref b330)])) _
            exact k
          obtain ⟨cl336, Ar336, qc336, S336, M336, Ha336, Ga336⟩ := id V330
          have hin336 : ¬ ((1 : Int32) < 0 ∨ cl336.slots.size ≤ ((1 : Int32)).toNatClampNeg) := inb_of S336 ⟨by decide, by decide⟩
          obtain ⟨T336, h336, X336, e336, W336, st336⟩ := stI X330 hx hZ e330 Ar336 (j := (1 : Int32)) hin336 (g := (mkF m 42 #[.val (.ref a1), .val (.int (3 : Int32)), .val (.int (2 : Int32)), .val (.ref b330), .val (.int (3 : Int32)), .val (.int (1 : Int32))] [(.int (3 : Int32)), (.int (1 : Int32)), (.ref b330)])) rfl rfl (hb hby d3_42)
          have V336 : Arv Z h336 b330 kn330 .int (2 : Int32) [(.int (0 : Int32)), (.int (3 : Int32))] (.int (0 : Int32)) := Arv.set Ar336 qc336 S336 M336 Ha336 Ga336 rfl W336 1 rfl (Nat.le_of_ble_eq_true rfl)
          have K337 : ∀ t, Steps p.tables e below (T336.setTop (mkF m 43 #[.val (.ref a1), .val (.int (3 : Int32)), .val (.int (2 : Int32)), .val (.ref b330), .val (.int (3 : Int32)), .val (.int (1 : Int32))] [])) t → Steps p.tables e below G t := fun t k => K335 t (st336 t k)
          have f338 := f331.other W336 ne_a1_b330
          have Z339 : n0 ≤ h336.size := Nat.le_trans Z332 (Keep.of_wr W336).1
          have KP340 : Keep h0 h336 [] := KP333.wr W336 (Or.inr sz_b330)
          have N341 := Fr.snoc X336 N0 g_b330
          have K342 : ∀ t, Steps p.tables e below (T336.setTop (mkF m 46 #[.val (.ref a1), .val (.int (3 : Int32)), .val (.int (2 : Int32)), .val (.ref b330), .val (.int (3 : Int32)), .val (.int (1 : Int32))] [(.int (3 : Int32)), (.ref a1)])) t → Steps p.tables e below G t := by
            intro t k
            refine K337 t ?_
            show Steps p.tables e below (T336.setTop (mkF m 43 #[.val (.ref a1), .val (.int (3 : Int32)), .val (.int (2 : Int32)), .val (.ref b330), .val (.int (3 : Int32)), .val (.int (1 : Int32))] [])) _
            refine XS.aloadN X336.here hx rfl (hb hby d3_43) rfl rfl ?_
            refine XS.iload X336.here hx rfl (hb hby d3_44) rfl ?_
            show Steps p.tables e below (T336.setTop (mkF m 46 #[.val (.ref a1), .val (.int (3 : Int32)), .val (.int (2 : Int32)), .val (.ref b330), .val (.int (3 : Int32)), .val (.int (1 : Int32))] [(.int (3 : Int32)), (.ref a1)])) _
            exact k
          obtain ⟨cl343, Ar343, qc343, S343, M343, Ha343, Ga343⟩ := id f338
          have hin343 : ¬ ((3 : Int32) < 0 ∨ cl343.slots.size ≤ ((3 : Int32)).toNatClampNeg) := inb_of S343 ⟨by decide, by decide⟩
          have hat343 : cl343.slots[((3 : Int32)).toNatClampNeg]? = some (.int (2 : Int32)) := Ha343.at hin343 rfl
          have K344 : ∀ t, Steps p.tables e below (T336.setTop (mkF m 47 #[.val (.ref a1), .val (.int (3 : Int32)), .val (.int (2 : Int32)), .val (.ref b330), .val (.int (3 : Int32)), .val (.int (1 : Int32))] [(.int (2 : Int32))])) t → Steps p.tables e below G t := fun t k => K342 t (X336.iaload hx (j := (3 : Int32)) (v := (.int (2 : Int32))) (by rw [e336]; exact Ar343.1) (State.isArrayOf_alike hZ.alike Ar343.2.1) Ar343.2.2 hin343 hat343 (g := (mkF m 46 #[.val (.ref a1), .val (.int (3 : Int32)), .val (.int (2 : Int32)), .val (.ref b330), .val (.int (3 : Int32)), .val (.int (1 : Int32))] [(.int (3 : Int32)), (.ref a1)])) rfl rfl (hb hby d3_46) _ k)
          have K345 : ∀ t, Steps p.tables e below (T336.setTop (mkF m 42 #[.val (.ref a1), .val (.int (3 : Int32)), .val (.int (2 : Int32)), .val (.ref b330), .val (.int (2 : Int32)), .val (.int (0 : Int32))] [(.int (2 : Int32)), (.int (0 : Int32)), (.ref b330)])) t → Steps p.tables e below G t := by
            intro t k
            refine K344 t ?_
            show Steps p.tables e below (T336.setTop (mkF m 47 #[.val (.ref a1), .val (.int (3 : Int32)), .val (.int (2 : Int32)), .val (.ref b330), .val (.int (3 : Int32)), .val (.int (1 : Int32))] [(.int (2 : Int32))])) _
            refine XS.istore X336.here hx rfl (hb hby d3_47) rfl (l' := #[.val (.ref a1), .val (.int (3 : Int32)), .val (.int (2 : Int32)), .val (.ref b330), .val (.int (2 : Int32)), .val (.int (1 : Int32))]) rfl ?_
            refine XS.iinc X336.here hx rfl (hb hby d3_49) rfl (l' := #[.val (.ref a1), .val (.int (3 : Int32)), .val (.int (2 : Int32)), .val (.ref b330), .val (.int (2 : Int32)), .val (.int (0 : Int32))]) rfl ?_
            refine XS.goto X336.here hx rfl (pc0 := 52) (pc' := 32) rfl (hb hby d3_52) (by decide) (by decide) ?_
            refine XS.iload X336.here hx rfl (hb hby d3_32) rfl ?_
            show Steps p.tables e below (T336.setTop (mkF m 34 #[.val (.ref a1), .val (.int (3 : Int32)), .val (.int (2 : Int32)), .val (.ref b330), .val (.int (2 : Int32)), .val (.int (0 : Int32))] [(.int (0 : Int32))])) _
            refine XS.ifNo X336.here hx rfl (hb hby d3_34) rfl ((if0 _ _).trans (flt (by decide)).1) ?_
            refine XS.aloadN X336.here hx rfl (hb hby d3_37) rfl rfl ?_
            refine XS.iload X336.here hx rfl (hb hby d3_38) rfl ?_
            refine XS.iload X336.here hx rfl (hb hby d3_40) rfl ?_
            show Steps p.tables e below (T336.setTop (mkF m 42 #[.val (.ref a1), .val (.int (3 : Int32)), .val (.int (2 : Int32)), .val (.ref b330), .val (.int (2 : Int32)), .val (.int (0 : Int32))] [(.int (2 : Int32)), (.int (0 : Int32)), (.ref b330)])) _
            exact k
          obtain ⟨cl346, Ar346, qc346, S346, M346, Ha346, Ga346⟩ := id V336
          have hin346 : ¬ ((0 : Int32) < 0 ∨ cl346.slots.size ≤ ((0 : Int32)).toNatClampNeg) := inb_of S346 ⟨by decide, by decide⟩
          obtain ⟨T346, h346, X346, e346, W346, st346⟩ := stI X336 hx hZ e336 Ar346 (j := (0 : Int32)) hin346 (g := (mkF m 42 #[.val (.ref a1), .val (.int (3 : Int32)), .val (.int (2 : Int32)), .val (.ref b330), .val (.int (2 : Int32)), .val (.int (0 : Int32))] [(.int (2 : Int32)), (.int (0 : Int32)), (.ref b330)])) rfl rfl (hb hby d3_42)
          have V346 : Arv Z h346 b330 kn330 .int (2 : Int32) [(.int (2 : Int32)), (.int (3 : Int32))] (.int (0 : Int32)) := Arv.set Ar346 qc346 S346 M346 Ha346 Ga346 rfl W346 0 rfl (Nat.le_of_ble_eq_true rfl)
          have K347 : ∀ t, Steps p.tables e below (T346.setTop (mkF m 43 #[.val (.ref a1), .val (.int (3 : Int32)), .val (.int (2 : Int32)), .val (.ref b330), .val (.int (2 : Int32)), .val (.int (0 : Int32))] [])) t → Steps p.tables e below G t := fun t k => K345 t (st346 t k)
          have f348 := f338.other W346 ne_a1_b330
          have Z349 : n0 ≤ h346.size := Nat.le_trans Z339 (Keep.of_wr W346).1
          have KP350 : Keep h0 h346 [] := KP340.wr W346 (Or.inr sz_b330)
          have N351 := Fr.snoc X346 N341 g_b330
          have K352 : ∀ t, Steps p.tables e below (T346.setTop (mkF m 46 #[.val (.ref a1), .val (.int (3 : Int32)), .val (.int (2 : Int32)), .val (.ref b330), .val (.int (2 : Int32)), .val (.int (0 : Int32))] [(.int (2 : Int32)), (.ref a1)])) t → Steps p.tables e below G t := by
            intro t k
            refine K347 t ?_
            show Steps p.tables e below (T346.setTop (mkF m 43 #[.val (.ref a1), .val (.int (3 : Int32)), .val (.int (2 : Int32)), .val (.ref b330), .val (.int (2 : Int32)), .val (.int (0 : Int32))] [])) _
            refine XS.aloadN X346.here hx rfl (hb hby d3_43) rfl rfl ?_
            refine XS.iload X346.here hx rfl (hb hby d3_44) rfl ?_
            show Steps p.tables e below (T346.setTop (mkF m 46 #[.val (.ref a1), .val (.int (3 : Int32)), .val (.int (2 : Int32)), .val (.ref b330), .val (.int (2 : Int32)), .val (.int (0 : Int32))] [(.int (2 : Int32)), (.ref a1)])) _
            exact k
          obtain ⟨cl353, Ar353, qc353, S353, M353, Ha353, Ga353⟩ := id f348
          have hin353 : ¬ ((2 : Int32) < 0 ∨ cl353.slots.size ≤ ((2 : Int32)).toNatClampNeg) := inb_of S353 ⟨by decide, by decide⟩
          have hat353 : cl353.slots[((2 : Int32)).toNatClampNeg]? = some (.int q2) := Ha353.at hin353 rfl
          have K354 : ∀ t, Steps p.tables e below (T346.setTop (mkF m 47 #[.val (.ref a1), .val (.int (3 : Int32)), .val (.int (2 : Int32)), .val (.ref b330), .val (.int (2 : Int32)), .val (.int (0 : Int32))] [(.int q2)])) t → Steps p.tables e below G t := fun t k => K352 t (X346.iaload hx (j := (2 : Int32)) (v := (.int q2)) (by rw [e346]; exact Ar353.1) (State.isArrayOf_alike hZ.alike Ar353.2.1) Ar353.2.2 hin353 hat353 (g := (mkF m 46 #[.val (.ref a1), .val (.int (3 : Int32)), .val (.int (2 : Int32)), .val (.ref b330), .val (.int (2 : Int32)), .val (.int (0 : Int32))] [(.int (2 : Int32)), (.ref a1)])) rfl rfl (hb hby d3_46) _ k)
          obtain ⟨fs, hr, hrun, hended, hW, hsame⟩ := X346.leave (v := some (.ref b330)) (fun h => by rw [Bd.returns] at h; cases h)
          have KF := K354
          rw [hG] at KF
          refine ⟨_, _, KF _ ?_, hrun, hended, _, _, rfl, ?_, ⟨_, rfl⟩, hW, hsame.mono (by decide) (by decide)⟩
          · show Steps p.tables e below (T346.setTop (mkF m 47 #[.val (.ref a1), .val (.int (3 : Int32)), .val (.int (2 : Int32)), .val (.ref b330), .val (.int (2 : Int32)), .val (.int (0 : Int32))] [(.int q2)])) _
            refine XS.istore X346.here hx rfl (hb hby d3_47) rfl (l' := #[.val (.ref a1), .val (.int (3 : Int32)), .val (.int (2 : Int32)), .val (.ref b330), .val (.int q2), .val (.int (0 : Int32))]) rfl ?_
            refine XS.iinc X346.here hx rfl (hb hby d3_49) rfl (l' := #[.val (.ref a1), .val (.int (3 : Int32)), .val (.int (2 : Int32)), .val (.ref b330), .val (.int q2), .val (.int (-1 : Int32))]) rfl ?_
            refine XS.goto X346.here hx rfl (pc0 := 52) (pc' := 32) rfl (hb hby d3_52) (by decide) (by decide) ?_
            refine XS.iload X346.here hx rfl (hb hby d3_32) rfl ?_
            show Steps p.tables e below (T346.setTop (mkF m 34 #[.val (.ref a1), .val (.int (3 : Int32)), .val (.int (2 : Int32)), .val (.ref b330), .val (.int q2), .val (.int (-1 : Int32))] [(.int (-1 : Int32))])) _
            refine XS.ifYes X346.here hx rfl (pc0 := 34) (pc' := 55) rfl (hb hby d3_34) rfl ((if0 _ _).trans (tlt (by decide)).1) (by decide) (by decide) ?_
            refine XS.aloadN X346.here hx rfl (hb hby d3_55) rfl rfl ?_
            show Steps p.tables e below (T346.setTop (mkF m 56 #[.val (.ref a1), .val (.int (3 : Int32)), .val (.int (2 : Int32)), .val (.ref b330), .val (.int q2), .val (.int (-1 : Int32))] [(.ref b330)])) _
            exact own_retA X346 hx Bd.returns rfl rfl rfl (hb hby d3_56) hr
          · show Q3 Z (3 : Int32) [(.int q0), (.int q1), (.int q2), (.int (2 : Int32)), (.int q4)] h0 n0 _ T346.heap _
            rw [e346]
            exact ⟨_, _, _, _, rfl, N351, KP350, sz_b330, V346, ⟨by decide, by decide⟩, ⟨by decide, by decide⟩, rfl, Or.inr ⟨2, q2, 0, by decide, rfl, ⟨by decide, by decide⟩, rfl, Or.inl ⟨rfl, hc328⟩⟩, Or.inr ⟨3, 2, 2, by decide, rfl, ⟨by decide, by decide⟩, rfl, Or.inr ⟨by decide, ⟨by decide, by decide⟩, rfl, rfl⟩⟩, Or.inl (by decide), Or.inl (by decide), Or.inl (by decide)⟩
        · have K355 : ∀ t, Steps p.tables e below (s₁.setTop (mkF m 15 #[.val (.ref a1), .val (.int (3 : Int32)), .val (.int (3 : Int32)), .val (.int (2 : Int32)), .unset, .unset] [(.int (2 : Int32)), (.ref a1)])) t → Steps p.tables e below G t := by
            intro t k
            refine K327 t ?_
            show Steps p.tables e below (s₁.setTop (mkF m 7 #[.val (.ref a1), .val (.int (3 : Int32)), .val (.int (2 : Int32)), .val (.int (2 : Int32)), .unset, .unset] [(.int q2)])) _
            refine XS.ifNo X0.here hx rfl (hb hby d3_7) rfl ((if0 _ _).trans (flt hc328).1) ?_
            refine XS.iinc X0.here hx rfl (hb hby d3_10) rfl (l' := #[.val (.ref a1), .val (.int (3 : Int32)), .val (.int (3 : Int32)), .val (.int (2 : Int32)), .unset, .unset]) rfl ?_
            refine XS.aloadN X0.here hx rfl (hb hby d3_13) rfl rfl ?_
            refine XS.iloadN X0.here hx rfl (hb hby d3_14) rfl ?_
            show Steps p.tables e below (s₁.setTop (mkF m 15 #[.val (.ref a1), .val (.int (3 : Int32)), .val (.int (3 : Int32)), .val (.int (2 : Int32)), .unset, .unset] [(.int (2 : Int32)), (.ref a1)])) _
            exact k
          obtain ⟨cl356, Ar356, qc356, S356, M356, Ha356, Ga356⟩ := id V1
          have hin356 : ¬ ((2 : Int32) < 0 ∨ cl356.slots.size ≤ ((2 : Int32)).toNatClampNeg) := inb_of S356 ⟨by decide, by decide⟩
          have hat356 : cl356.slots[((2 : Int32)).toNatClampNeg]? = some (.int q2) := Ha356.at hin356 rfl
          have K357 : ∀ t, Steps p.tables e below (s₁.setTop (mkF m 16 #[.val (.ref a1), .val (.int (3 : Int32)), .val (.int (3 : Int32)), .val (.int (2 : Int32)), .unset, .unset] [(.int q2)])) t → Steps p.tables e below G t := fun t k => K355 t (X0.iaload hx (j := (2 : Int32)) (v := (.int q2)) (by rw [e0]; exact Ar356.1) (State.isArrayOf_alike hZ.alike Ar356.2.1) Ar356.2.2 hin356 hat356 (g := (mkF m 15 #[.val (.ref a1), .val (.int (3 : Int32)), .val (.int (3 : Int32)), .val (.int (2 : Int32)), .unset, .unset] [(.int (2 : Int32)), (.ref a1)])) rfl rfl (hb hby d3_15) _ k)
          have K358 : ∀ t, Steps p.tables e below (s₁.setTop (mkF m 4 #[.val (.ref a1), .val (.int (3 : Int32)), .val (.int (3 : Int32)), .val (.int q2), .unset, .unset] [])) t → Steps p.tables e below G t := by
            intro t k
            refine K357 t ?_
            show Steps p.tables e below (s₁.setTop (mkF m 16 #[.val (.ref a1), .val (.int (3 : Int32)), .val (.int (3 : Int32)), .val (.int (2 : Int32)), .unset, .unset] [(.int q2)])) _
            refine XS.istoreN X0.here hx rfl (hb hby d3_16) rfl (l' := #[.val (.ref a1), .val (.int (3 : Int32)), .val (.int (3 : Int32)), .val (.int q2), .unset, .unset]) rfl ?_
            refine XS.goto X0.here hx rfl (pc0 := 17) (pc' := 4) rfl (hb hby d3_17) (by decide) (by decide) ?_
            show Steps p.tables e below (s₁.setTop (mkF m 4 #[.val (.ref a1), .val (.int (3 : Int32)), .val (.int (3 : Int32)), .val (.int q2), .unset, .unset] [])) _
            exact k
          rcases own_lt2 hc328 hq2 with rfl | rfl
          · have K359 : ∀ t, Steps p.tables e below (s₁.setTop (mkF m 6 #[.val (.ref a1), .val (.int (3 : Int32)), .val (.int (3 : Int32)), .val (.int (0 : Int32)), .unset, .unset] [(.int (0 : Int32)), (.ref a1)])) t → Steps p.tables e below G t := by
              intro t k
              refine K358 t ?_
              show Steps p.tables e below (s₁.setTop (mkF m 4 #[.val (.ref a1), .val (.int (3 : Int32)), .val (.int (3 : Int32)), .val (.int (0 : Int32)), .unset, .unset] [])) _
              refine XS.aloadN X0.here hx rfl (hb hby d3_4) rfl rfl ?_
              refine XS.iloadN X0.here hx rfl (hb hby d3_5) rfl ?_
              show Steps p.tables e below (s₁.setTop (mkF m 6 #[.val (.ref a1), .val (.int (3 : Int32)), .val (.int (3 : Int32)), .val (.int (0 : Int32)), .unset, .unset] [(.int (0 : Int32)), (.ref a1)])) _
              exact k
            obtain ⟨cl360, Ar360, qc360, S360, M360, Ha360, Ga360⟩ := id V1
            have hin360 : ¬ ((0 : Int32) < 0 ∨ cl360.slots.size ≤ ((0 : Int32)).toNatClampNeg) := inb_of S360 ⟨by decide, by decide⟩
            have hat360 : cl360.slots[((0 : Int32)).toNatClampNeg]? = some (.int q0) := Ha360.at hin360 rfl
            have K361 : ∀ t, Steps p.tables e below (s₁.setTop (mkF m 7 #[.val (.ref a1), .val (.int (3 : Int32)), .val (.int (3 : Int32)), .val (.int (0 : Int32)), .unset, .unset] [(.int q0)])) t → Steps p.tables e below G t := fun t k => K359 t (X0.iaload hx (j := (0 : Int32)) (v := (.int q0)) (by rw [e0]; exact Ar360.1) (State.isArrayOf_alike hZ.alike Ar360.2.1) Ar360.2.2 hin360 hat360 (g := (mkF m 6 #[.val (.ref a1), .val (.int (3 : Int32)), .val (.int (3 : Int32)), .val (.int (0 : Int32)), .unset, .unset] [(.int (0 : Int32)), (.ref a1)])) rfl rfl (hb hby d3_6) _ k)
            have K362 : ∀ t, Steps p.tables e below (s₁.setTop (mkF m 21 #[.val (.ref a1), .val (.int (3 : Int32)), .val (.int (3 : Int32)), .val (.int (0 : Int32)), .unset, .unset] [(.int (3 : Int32))])) t → Steps p.tables e below G t := by
              intro t k
              refine K361 t ?_
              show Steps p.tables e below (s₁.setTop (mkF m 7 #[.val (.ref a1), .val (.int (3 : Int32)), .val (.int (3 : Int32)), .val (.int (0 : Int32)), .unset, .unset] [(.int q0)])) _
              refine XS.ifYes X0.here hx rfl (pc0 := 7) (pc' := 20) rfl (hb hby d3_7) rfl ((if0 _ _).trans (tlt hq0).1) (by decide) (by decide) ?_
              refine XS.iloadN X0.here hx rfl (hb hby d3_20) rfl ?_
              show Steps p.tables e below (s₁.setTop (mkF m 21 #[.val (.ref a1), .val (.int (3 : Int32)), .val (.int (3 : Int32)), .val (.int (0 : Int32)), .unset, .unset] [(.int (3 : Int32))])) _
              exact k
            obtain ⟨T363, h363, kn363, X363, e363, E363, A363, st363⟩ := newP X0 hx hZ (hw _ (List.mem_of_getElem? (i := 8) rfl)) e0 (g := (mkF m 21 #[.val (.ref a1), .val (.int (3 : Int32)), .val (.int (3 : Int32)), .val (.int (0 : Int32)), .unset, .unset] [(.int (3 : Int32))])) rfl (hb hby d3_21) rfl (by decide) (cap := 3) (by decide) (by decide) (by decide) (by decide)
            obtain ⟨b363, g363⟩ : ∃ z, z = h0.size := ⟨_, rfl⟩
            rw [← g363] at A363 st363
            have ne_a1_b363 : a1 ≠ b363 := Nat.ne_of_lt (Nat.lt_of_lt_of_le V1.lt (Nat.le_of_eq g363.symm))
            have g_b363 : n0 ≤ b363 := Nat.le_trans Z0 (Nat.le_of_eq g363.symm)
            have sz_b363 : h0.size ≤ b363 := Nat.le_trans KP0.1 (Nat.le_of_eq g363.symm)
            have f364 := V1.ext E363
            have Z365 : n0 ≤ h363.size := Nat.le_trans Z0 E363.1
            have KP366 : Keep h0 h363 [] := KP0.ext E363
            have K367 : ∀ t, Steps p.tables e below (T363.setTop (mkF m 23 #[.val (.ref a1), .val (.int (3 : Int32)), .val (.int (3 : Int32)), .val (.int (0 : Int32)), .unset, .unset] [(.ref b363)])) t → Steps p.tables e below G t := fun t k => K362 t (st363 t k)
            have V363 : Arv Z h363 b363 kn363 .int (3 : Int32) [(.int (0 : Int32)), (.int (0 : Int32)), (.int (0 : Int32))] (.int (0 : Int32)) := (Arv.new A363 (by decide)).pad (pad_rep [] (.int (0 : Int32)) 3)
            have K368 : ∀ t, Steps p.tables e below (T363.setTop (mkF m 42 #[.val (.ref a1), .val (.int (3 : Int32)), .val (.int (3 : Int32)), .val (.ref b363), .val (.int (3 : Int32)), .val (.int (2 : Int32))] [(.int (3 : Int32)), (.int (2 : Int32)), (.ref b363)])) t → Steps p.tables e below G t := by
              intro t k
              refine K367 t ?_
              show Steps p.tables e below (T363.setTop (mkF m 23 #[.val (.ref a1), .val (.int (3 : Int32)), .val (.int (3 : Int32)), .val (.int (0 : Int32)), .unset, .unset] [(.ref b363)])) _
              refine XS.astoreN X363.here hx rfl (hb hby d3_23) rfl rfl (l' := #[.val (.ref a1), .val (.int (3 : Int32)), .val (.int (3 : Int32)), .val (.ref b363), .unset, .unset]) rfl ?_
              refine XS.iloadN X363.here hx rfl (hb hby d3_24) rfl ?_
              refine XS.istore X363.here hx rfl (hb hby d3_25) rfl (l' := #[.val (.ref a1), .val (.int (3 : Int32)), .val (.int (3 : Int32)), .val (.ref b363), .val (.int (3 : Int32)), .unset]) rfl ?_
              refine XS.iloadN X363.here hx rfl (hb hby d3_27) rfl ?_
              show Steps p.tables e below (T363.setTop (mkF m 28 #[.val (.ref a1), .val (.int (3 : Int32)), .val (.int (3 : Int32)), .val (.ref b363), .val (.int (3 : Int32)), .unset] [(.int (3 : Int32))])) _
              refine XS.iconst X363.here hx rfl (hb hby d3_28) ?_
              refine XS.isub X363.here hx rfl (hb hby d3_29) rfl ?_
              refine XS.istore X363.here hx rfl (hb hby d3_30) rfl (l' := #[.val (.ref a1), .val (.int (3 : Int32)), .val (.int (3 : Int32)), .val (.ref b363), .val (.int (3 : Int32)), .val (.int (2 : Int32))]) rfl ?_
              refine XS.iload X363.here hx rfl (hb hby d3_32) rfl ?_
              show Steps p.tables e below (T363.setTop (mkF m 34 #[.val (.ref a1), .val (.int (3 : Int32)), .val (.int (3 : Int32)), .val (.ref b363), .val (.int (3 : Int32)), .val (.int (2 : Int32))] [(.int (2 : Int32))])) _
              refine XS.ifNo X363.here hx rfl (hb hby d3_34) rfl ((if0 _ _).trans (flt (by decide)).1) ?_
              refine XS.aloadN X363.here hx rfl (hb hby d3_37) rfl rfl ?_
              refine XS.iload X363.here hx rfl (hb hby d3_38) rfl ?_
              refine XS.iload X363.here hx rfl (hb hby d3_40) rfl ?_
              show Steps p.tables e below (T363.setTop (mkF m 42 #[.val (.ref a1), .val (.int (3 : Int32)), .val (.int (3 : Int32)), .val (.ref b363), .val (.int (3 : Int32)), .val (.int (2 : Int32))] [(.int (3 : Int32)), (.int (2 : Int32)), (.ref b363)])) _
              exact k
            obtain ⟨cl369, Ar369, qc369, S369, M369, Ha369, Ga369⟩ := id V363
            have hin369 : ¬ ((2 : Int32) < 0 ∨ cl369.slots.size ≤ ((2 : Int32)).toNatClampNeg) := inb_of S369 ⟨by decide, by decide⟩
            obtain ⟨T369, h369, X369, e369, W369, st369⟩ := stI X363 hx hZ e363 Ar369 (j := (2 : Int32)) hin369 (g := (mkF m 42 #[.val (.ref a1), .val (.int (3 : Int32)), .val (.int (3 : Int32)), .val (.ref b363), .val (.int (3 : Int32)), .val (.int (2 : Int32))] [(.int (3 : Int32)), (.int (2 : Int32)), (.ref b363)])) rfl rfl (hb hby d3_42)
            have V369 : Arv Z h369 b363 kn363 .int (3 : Int32) [(.int (0 : Int32)), (.int (0 : Int32)), (.int (3 : Int32))] (.int (0 : Int32)) := Arv.set Ar369 qc369 S369 M369 Ha369 Ga369 rfl W369 2 rfl (Nat.le_of_ble_eq_true rfl)
            have K370 : ∀ t, Steps p.tables e below (T369.setTop (mkF m 43 #[.val (.ref a1), .val (.int (3 : Int32)), .val (.int (3 : Int32)), .val (.ref b363), .val (.int (3 : Int32)), .val (.int (2 : Int32))] [])) t → Steps p.tables e below G t := fun t k => K368 t (st369 t k)
            have f371 := f364.other W369 ne_a1_b363
            have Z372 : n0 ≤ h369.size := Nat.le_trans Z365 (Keep.of_wr W369).1
            have KP373 : Keep h0 h369 [] := KP366.wr W369 (Or.inr sz_b363)
            have N374 := Fr.snoc X369 N0 g_b363
            have K375 : ∀ t, Steps p.tables e below (T369.setTop (mkF m 46 #[.val (.ref a1), .val (.int (3 : Int32)), .val (.int (3 : Int32)), .val (.ref b363), .val (.int (3 : Int32)), .val (.int (2 : Int32))] [(.int (3 : Int32)), (.ref a1)])) t → Steps p.tables e below G t := by
              intro t k
              refine K370 t ?_
              show Steps p.tables e below (T369.setTop (mkF m 43 #[.val (.ref a1), .val (.int (3 : Int32)), .val (.int (3 : Int32)), .val (.ref b363), .val (.int (3 : Int32)), .val (.int (2 : Int32))] [])) _
              refine XS.aloadN X369.here hx rfl (hb hby d3_43) rfl rfl ?_
              refine XS.iload X369.here hx rfl (hb hby d3_44) rfl ?_
              show Steps p.tables e below (T369.setTop (mkF m 46 #[.val (.ref a1), .val (.int (3 : Int32)), .val (.int (3 : Int32)), .val (.ref b363), .val (.int (3 : Int32)), .val (.int (2 : Int32))] [(.int (3 : Int32)), (.ref a1)])) _
              exact k
            obtain ⟨cl376, Ar376, qc376, S376, M376, Ha376, Ga376⟩ := id f371
            have hin376 : ¬ ((3 : Int32) < 0 ∨ cl376.slots.size ≤ ((3 : Int32)).toNatClampNeg) := inb_of S376 ⟨by decide, by decide⟩
            have hat376 : cl376.slots[((3 : Int32)).toNatClampNeg]? = some (.int (2 : Int32)) := Ha376.at hin376 rfl
            have K377 : ∀ t, Steps p.tables e below (T369.setTop (mkF m 47 #[.val (.ref a1), .val (.int (3 : Int32)), .val (.int (3 : Int32)), .val (.ref b363), .val (.int (3 : Int32)), .val (.int (2 : Int32))] [(.int (2 : Int32))])) t → Steps p.tables e below G t := fun t k => K375 t (X369.iaload hx (j := (3 : Int32)) (v := (.int (2 : Int32))) (by rw [e369]; exact Ar376.1) (State.isArrayOf_alike hZ.alike Ar376.2.1) Ar376.2.2 hin376 hat376 (g := (mkF m 46 #[.val (.ref a1), .val (.int (3 : Int32)), .val (.int (3 : Int32)), .val (.ref b363), .val (.int (3 : Int32)), .val (.int (2 : Int32))] [(.int (3 : Int32)), (.ref a1)])) rfl rfl (hb hby d3_46) _ k)
            have K378 : ∀ t, Steps p.tables e below (T369.setTop (mkF m 42 #[.val (.ref a1), .val (.int (3 : Int32)), .val (.int (3 : Int32)), .val (.ref b363), .val (.int (2 : Int32)), .val (.int (1 : Int32))] [(.int (2 : Int32)), (.int (1 : Int32)), (.ref b363)])) t → Steps p.tables e below G t := by
              intro t k
              refine K377 t ?_
              show Steps p.tables e below (T369.setTop (mkF m 47 #[.val (.ref a1), .val (.int (3 : Int32)), .val (.int (3 : Int32)), .val (.ref b363), .val (.int (3 : Int32)), .val (.int (2 : Int32))] [(.int (2 : Int32))])) _
              refine XS.istore X369.here hx rfl (hb hby d3_47) rfl (l' := #[.val (.ref a1), .val (.int (3 : Int32)), .val (.int (3 : Int32)), .val (.ref b363), .val (.int (2 : Int32)), .val (.int (2 : Int32))]) rfl ?_
              refine XS.iinc X369.here hx rfl (hb hby d3_49) rfl (l' := #[.val (.ref a1), .val (.int (3 : Int32)), .val (.int (3 : Int32)), .val (.ref b363), .val (.int (2 : Int32)), .val (.int (1 : Int32))]) rfl ?_
              refine XS.goto X369.here hx rfl (pc0 := 52) (pc' := 32) rfl (hb hby d3_52) (by decide) (by decide) ?_
              refine XS.iload X369.here hx rfl (hb hby d3_32) rfl ?_
              show Steps p.tables e below (T369.setTop (mkF m 34 #[.val (.ref a1), .val (.int (3 : Int32)), .val (.int (3 : Int32)), .val (.ref b363), .val (.int (2 : Int32)), .val (.int (1 : Int32))] [(.int (1 : Int32))])) _
              refine XS.ifNo X369.here hx rfl (hb hby d3_34) rfl ((if0 _ _).trans (flt (by decide)).1) ?_
              refine XS.aloadN X369.here hx rfl (hb hby d3_37) rfl rfl ?_
              refine XS.iload X369.here hx rfl (hb hby d3_38) rfl ?_
              refine XS.iload X369.here hx rfl (hb hby d3_40) rfl ?_
              show Steps p.tables e below (T369.setTop (mkF m 42 #[.val (.ref a1), .val (.int (3 : Int32)), .val (.int (3 : Int32)), .val (.ref b363), .val (.int (2 : Int32)), .val (.int (1 : Int32))] [(.int (2 : Int32)), (.int (1 : Int32)), (.ref b363)])) _
              exact k
            obtain ⟨cl379, Ar379, qc379, S379, M379, Ha379, Ga379⟩ := id V369
            have hin379 : ¬ ((1 : Int32) < 0 ∨ cl379.slots.size ≤ ((1 : Int32)).toNatClampNeg) := inb_of S379 ⟨by decide, by decide⟩
            obtain ⟨T379, h379, X379, e379, W379, st379⟩ := stI X369 hx hZ e369 Ar379 (j := (1 : Int32)) hin379 (g := (mkF m 42 #[.val (.ref a1), .val (.int (3 : Int32)), .val (.int (3 : Int32)), .val (.ref b363), .val (.int (2 : Int32)), .val (.int (1 : Int32))] [(.int (2 : Int32)), (.int (1 : Int32)), (.ref b363)])) rfl rfl (hb hby d3_42)
            have V379 : Arv Z h379 b363 kn363 .int (3 : Int32) [(.int (0 : Int32)), (.int (2 : Int32)), (.int (3 : Int32))] (.int (0 : Int32)) := Arv.set Ar379 qc379 S379 M379 Ha379 Ga379 rfl W379 1 rfl (Nat.le_of_ble_eq_true rfl)
            have K380 : ∀ t, Steps p.tables e below (T379.setTop (mkF m 43 #[.val (.ref a1), .val (.int (3 : Int32)), .val (.int (3 : Int32)), .val (.ref b363), .val (.int (2 : Int32)), .val (.int (1 : Int32))] [])) t → Steps p.tables e below G t := fun t k => K378 t (st379 t k)
            have f381 := f371.other W379 ne_a1_b363
            have Z382 : n0 ≤ h379.size := Nat.le_trans Z372 (Keep.of_wr W379).1
            have KP383 : Keep h0 h379 [] := KP373.wr W379 (Or.inr sz_b363)
            have N384 := Fr.snoc X379 N374 g_b363
            have K385 : ∀ t, Steps p.tables e below (T379.setTop (mkF m 46 #[.val (.ref a1), .val (.int (3 : Int32)), .val (.int (3 : Int32)), .val (.ref b363), .val (.int (2 : Int32)), .val (.int (1 : Int32))] [(.int (2 : Int32)), (.ref a1)])) t → Steps p.tables e below G t := by
              intro t k
              refine K380 t ?_
              show Steps p.tables e below (T379.setTop (mkF m 43 #[.val (.ref a1), .val (.int (3 : Int32)), .val (.int (3 : Int32)), .val (.ref b363), .val (.int (2 : Int32)), .val (.int (1 : Int32))] [])) _
              refine XS.aloadN X379.here hx rfl (hb hby d3_43) rfl rfl ?_
              refine XS.iload X379.here hx rfl (hb hby d3_44) rfl ?_
              show Steps p.tables e below (T379.setTop (mkF m 46 #[.val (.ref a1), .val (.int (3 : Int32)), .val (.int (3 : Int32)), .val (.ref b363), .val (.int (2 : Int32)), .val (.int (1 : Int32))] [(.int (2 : Int32)), (.ref a1)])) _
              exact k
            obtain ⟨cl386, Ar386, qc386, S386, M386, Ha386, Ga386⟩ := id f381
            have hin386 : ¬ ((2 : Int32) < 0 ∨ cl386.slots.size ≤ ((2 : Int32)).toNatClampNeg) := inb_of S386 ⟨by decide, by decide⟩
            have hat386 : cl386.slots[((2 : Int32)).toNatClampNeg]? = some (.int (0 : Int32)) := Ha386.at hin386 rfl
            have K387 : ∀ t, Steps p.tables e below (T379.setTop (mkF m 47 #[.val (.ref a1), .val (.int (3 : Int32)), .val (.int (3 : Int32)), .val (.ref b363), .val (.int (2 : Int32)), .val (.int (1 : Int32))] [(.int (0 : Int32))])) t → Steps p.tables e below G t := fun t k => K385 t (X379.iaload hx (j := (2 : Int32)) (v := (.int (0 : Int32))) (by rw [e379]; exact Ar386.1) (State.isArrayOf_alike hZ.alike Ar386.2.1) Ar386.2.2 hin386 hat386 (g := (mkF m 46 #[.val (.ref a1), .val (.int (3 : Int32)), .val (.int (3 : Int32)), .val (.ref b363), .val (.int (2 : Int32)), .val (.int (1 : Int32))] [(.int (2 : Int32)), (.ref a1)])) rfl rfl (hb hby d3_46) _ k)
            have K388 : ∀ t, Steps p.tables e below (T379.setTop (mkF m 42 #[.val (.ref a1), .val (.int (3 : Int32)), .val (.int (3 : Int32)), .val (.ref b363), .val (.int (0 : Int32)), .val (.int (0 : Int32))] [(.int (0 : Int32)), (.int (0 : Int32)), (.ref b363)])) t → Steps p.tables e below G t := by
              intro t k
              refine K387 t ?_
              show Steps p.tables e below (T379.setTop (mkF m 47 #[.val (.ref a1), .val (.int (3 : Int32)), .val (.int (3 : Int32)), .val (.ref b363), .val (.int (2 : Int32)), .val (.int (1 : Int32))] [(.int (0 : Int32))])) _
              refine XS.istore X379.here hx rfl (hb hby d3_47) rfl (l' := #[.val (.ref a1), .val (.int (3 : Int32)), .val (.int (3 : Int32)), .val (.ref b363), .val (.int (0 : Int32)), .val (.int (1 : Int32))]) rfl ?_
              refine XS.iinc X379.here hx rfl (hb hby d3_49) rfl (l' := #[.val (.ref a1), .val (.int (3 : Int32)), .val (.int (3 : Int32)), .val (.ref b363), .val (.int (0 : Int32)), .val (.int (0 : Int32))]) rfl ?_
              refine XS.goto X379.here hx rfl (pc0 := 52) (pc' := 32) rfl (hb hby d3_52) (by decide) (by decide) ?_
              refine XS.iload X379.here hx rfl (hb hby d3_32) rfl ?_
              show Steps p.tables e below (T379.setTop (mkF m 34 #[.val (.ref a1), .val (.int (3 : Int32)), .val (.int (3 : Int32)), .val (.ref b363), .val (.int (0 : Int32)), .val (.int (0 : Int32))] [(.int (0 : Int32))])) _
              refine XS.ifNo X379.here hx rfl (hb hby d3_34) rfl ((if0 _ _).trans (flt (by decide)).1) ?_
              refine XS.aloadN X379.here hx rfl (hb hby d3_37) rfl rfl ?_
              refine XS.iload X379.here hx rfl (hb hby d3_38) rfl ?_
              refine XS.iload X379.here hx rfl (hb hby d3_40) rfl ?_
              show Steps p.tables e below (T379.setTop (mkF m 42 #[.val (.ref a1), .val (.int (3 : Int32)), .val (.int (3 : Int32)), .val (.ref b363), .val (.int (0 : Int32)), .val (.int (0 : Int32))] [(.int (0 : Int32)), (.int (0 : Int32)), (.ref b363)])) _
              exact k
            obtain ⟨cl389, Ar389, qc389, S389, M389, Ha389, Ga389⟩ := id V379
            have hin389 : ¬ ((0 : Int32) < 0 ∨ cl389.slots.size ≤ ((0 : Int32)).toNatClampNeg) := inb_of S389 ⟨by decide, by decide⟩
            obtain ⟨T389, h389, X389, e389, W389, st389⟩ := stI X379 hx hZ e379 Ar389 (j := (0 : Int32)) hin389 (g := (mkF m 42 #[.val (.ref a1), .val (.int (3 : Int32)), .val (.int (3 : Int32)), .val (.ref b363), .val (.int (0 : Int32)), .val (.int (0 : Int32))] [(.int (0 : Int32)), (.int (0 : Int32)), (.ref b363)])) rfl rfl (hb hby d3_42)
            have V389 : Arv Z h389 b363 kn363 .int (3 : Int32) [(.int (0 : Int32)), (.int (2 : Int32)), (.int (3 : Int32))] (.int (0 : Int32)) := Arv.set Ar389 qc389 S389 M389 Ha389 Ga389 rfl W389 0 rfl (Nat.le_of_ble_eq_true rfl)
            have K390 : ∀ t, Steps p.tables e below (T389.setTop (mkF m 43 #[.val (.ref a1), .val (.int (3 : Int32)), .val (.int (3 : Int32)), .val (.ref b363), .val (.int (0 : Int32)), .val (.int (0 : Int32))] [])) t → Steps p.tables e below G t := fun t k => K388 t (st389 t k)
            have f391 := f381.other W389 ne_a1_b363
            have Z392 : n0 ≤ h389.size := Nat.le_trans Z382 (Keep.of_wr W389).1
            have KP393 : Keep h0 h389 [] := KP383.wr W389 (Or.inr sz_b363)
            have N394 := Fr.snoc X389 N384 g_b363
            have K395 : ∀ t, Steps p.tables e below (T389.setTop (mkF m 46 #[.val (.ref a1), .val (.int (3 : Int32)), .val (.int (3 : Int32)), .val (.ref b363), .val (.int (0 : Int32)), .val (.int (0 : Int32))] [(.int (0 : Int32)), (.ref a1)])) t → Steps p.tables e below G t := by
              intro t k
              refine K390 t ?_
              show Steps p.tables e below (T389.setTop (mkF m 43 #[.val (.ref a1), .val (.int (3 : Int32)), .val (.int (3 : Int32)), .val (.ref b363), .val (.int (0 : Int32)), .val (.int (0 : Int32))] [])) _
              refine XS.aloadN X389.here hx rfl (hb hby d3_43) rfl rfl ?_
              refine XS.iload X389.here hx rfl (hb hby d3_44) rfl ?_
              show Steps p.tables e below (T389.setTop (mkF m 46 #[.val (.ref a1), .val (.int (3 : Int32)), .val (.int (3 : Int32)), .val (.ref b363), .val (.int (0 : Int32)), .val (.int (0 : Int32))] [(.int (0 : Int32)), (.ref a1)])) _
              exact k
            obtain ⟨cl396, Ar396, qc396, S396, M396, Ha396, Ga396⟩ := id f391
            have hin396 : ¬ ((0 : Int32) < 0 ∨ cl396.slots.size ≤ ((0 : Int32)).toNatClampNeg) := inb_of S396 ⟨by decide, by decide⟩
            have hat396 : cl396.slots[((0 : Int32)).toNatClampNeg]? = some (.int q0) := Ha396.at hin396 rfl
            have K397 : ∀ t, Steps p.tables e below (T389.setTop (mkF m 47 #[.val (.ref a1), .val (.int (3 : Int32)), .val (.int (3 : Int32)), .val (.ref b363), .val (.int (0 : Int32)), .val (.int (0 : Int32))] [(.int q0)])) t → Steps p.tables e below G t := fun t k => K395 t (X389.iaload hx (j := (0 : Int32)) (v := (.int q0)) (by rw [e389]; exact Ar396.1) (State.isArrayOf_alike hZ.alike Ar396.2.1) Ar396.2.2 hin396 hat396 (g := (mkF m 46 #[.val (.ref a1), .val (.int (3 : Int32)), .val (.int (3 : Int32)), .val (.ref b363), .val (.int (0 : Int32)), .val (.int (0 : Int32))] [(.int (0 : Int32)), (.ref a1)])) rfl rfl (hb hby d3_46) _ k)
            obtain ⟨fs, hr, hrun, hended, hW, hsame⟩ := X389.leave (v := some (.ref b363)) (fun h => by rw [Bd.returns] at h; cases h)
            have KF := K397
            rw [hG] at KF
            refine ⟨_, _, KF _ ?_, hrun, hended, _, _, rfl, ?_, ⟨_, rfl⟩, hW, hsame.mono (by decide) (by decide)⟩
            · show Steps p.tables e below (T389.setTop (mkF m 47 #[.val (.ref a1), .val (.int (3 : Int32)), .val (.int (3 : Int32)), .val (.ref b363), .val (.int (0 : Int32)), .val (.int (0 : Int32))] [(.int q0)])) _
              refine XS.istore X389.here hx rfl (hb hby d3_47) rfl (l' := #[.val (.ref a1), .val (.int (3 : Int32)), .val (.int (3 : Int32)), .val (.ref b363), .val (.int q0), .val (.int (0 : Int32))]) rfl ?_
              refine XS.iinc X389.here hx rfl (hb hby d3_49) rfl (l' := #[.val (.ref a1), .val (.int (3 : Int32)), .val (.int (3 : Int32)), .val (.ref b363), .val (.int q0), .val (.int (-1 : Int32))]) rfl ?_
              refine XS.goto X389.here hx rfl (pc0 := 52) (pc' := 32) rfl (hb hby d3_52) (by decide) (by decide) ?_
              refine XS.iload X389.here hx rfl (hb hby d3_32) rfl ?_
              show Steps p.tables e below (T389.setTop (mkF m 34 #[.val (.ref a1), .val (.int (3 : Int32)), .val (.int (3 : Int32)), .val (.ref b363), .val (.int q0), .val (.int (-1 : Int32))] [(.int (-1 : Int32))])) _
              refine XS.ifYes X389.here hx rfl (pc0 := 34) (pc' := 55) rfl (hb hby d3_34) rfl ((if0 _ _).trans (tlt (by decide)).1) (by decide) (by decide) ?_
              refine XS.aloadN X389.here hx rfl (hb hby d3_55) rfl rfl ?_
              show Steps p.tables e below (T389.setTop (mkF m 56 #[.val (.ref a1), .val (.int (3 : Int32)), .val (.int (3 : Int32)), .val (.ref b363), .val (.int q0), .val (.int (-1 : Int32))] [(.ref b363)])) _
              exact own_retA X389 hx Bd.returns rfl rfl rfl (hb hby d3_56) hr
            · show Q3 Z (3 : Int32) [(.int q0), (.int q1), (.int (0 : Int32)), (.int (2 : Int32)), (.int q4)] h0 n0 _ T389.heap _
              rw [e389]
              exact ⟨_, _, _, _, rfl, N394, KP393, sz_b363, V389, ⟨by decide, by decide⟩, ⟨by decide, by decide⟩, rfl, Or.inr ⟨0, q0, 0, by decide, rfl, ⟨by decide, by decide⟩, rfl, Or.inl ⟨rfl, hq0⟩⟩, Or.inr ⟨2, 0, 0, by decide, rfl, ⟨by decide, by decide⟩, rfl, Or.inr ⟨by decide, ⟨by decide, by decide⟩, rfl, rfl⟩⟩, Or.inr ⟨3, 2, 2, by decide, rfl, ⟨by decide, by decide⟩, rfl, Or.inr ⟨by decide, ⟨by decide, by decide⟩, rfl, rfl⟩⟩, Or.inl (by decide), Or.inl (by decide)⟩
          · have K398 : ∀ t, Steps p.tables e below (s₁.setTop (mkF m 6 #[.val (.ref a1), .val (.int (3 : Int32)), .val (.int (3 : Int32)), .val (.int (1 : Int32)), .unset, .unset] [(.int (1 : Int32)), (.ref a1)])) t → Steps p.tables e below G t := by
              intro t k
              refine K358 t ?_
              show Steps p.tables e below (s₁.setTop (mkF m 4 #[.val (.ref a1), .val (.int (3 : Int32)), .val (.int (3 : Int32)), .val (.int (1 : Int32)), .unset, .unset] [])) _
              refine XS.aloadN X0.here hx rfl (hb hby d3_4) rfl rfl ?_
              refine XS.iloadN X0.here hx rfl (hb hby d3_5) rfl ?_
              show Steps p.tables e below (s₁.setTop (mkF m 6 #[.val (.ref a1), .val (.int (3 : Int32)), .val (.int (3 : Int32)), .val (.int (1 : Int32)), .unset, .unset] [(.int (1 : Int32)), (.ref a1)])) _
              exact k
            obtain ⟨cl399, Ar399, qc399, S399, M399, Ha399, Ga399⟩ := id V1
            have hin399 : ¬ ((1 : Int32) < 0 ∨ cl399.slots.size ≤ ((1 : Int32)).toNatClampNeg) := inb_of S399 ⟨by decide, by decide⟩
            have hat399 : cl399.slots[((1 : Int32)).toNatClampNeg]? = some (.int q1) := Ha399.at hin399 rfl
            have K400 : ∀ t, Steps p.tables e below (s₁.setTop (mkF m 7 #[.val (.ref a1), .val (.int (3 : Int32)), .val (.int (3 : Int32)), .val (.int (1 : Int32)), .unset, .unset] [(.int q1)])) t → Steps p.tables e below G t := fun t k => K398 t (X0.iaload hx (j := (1 : Int32)) (v := (.int q1)) (by rw [e0]; exact Ar399.1) (State.isArrayOf_alike hZ.alike Ar399.2.1) Ar399.2.2 hin399 hat399 (g := (mkF m 6 #[.val (.ref a1), .val (.int (3 : Int32)), .val (.int (3 : Int32)), .val (.int (1 : Int32)), .unset, .unset] [(.int (1 : Int32)), (.ref a1)])) rfl rfl (hb hby d3_6) _ k)
            by_cases hc401 : q1 < (0 : Int32)
            · have K402 : ∀ t, Steps p.tables e below (s₁.setTop (mkF m 21 #[.val (.ref a1), .val (.int (3 : Int32)), .val (.int (3 : Int32)), .val (.int (1 : Int32)), .unset, .unset] [(.int (3 : Int32))])) t → Steps p.tables e below G t := by
                intro t k
                refine K400 t ?_
                show Steps p.tables e below (s₁.setTop (mkF m 7 #[.val (.ref a1), .val (.int (3 : Int32)), .val (.int (3 : Int32)), .val (.int (1 : Int32)), .unset, .unset] [(.int q1)])) _
                refine XS.ifYes X0.here hx rfl (pc0 := 7) (pc' := 20) rfl (hb hby d3_7) rfl ((if0 _ _).trans (tlt hc401).1) (by decide) (by decide) ?_
                refine XS.iloadN X0.here hx rfl (hb hby d3_20) rfl ?_
                show Steps p.tables e below (s₁.setTop (mkF m 21 #[.val (.ref a1), .val (.int (3 : Int32)), .val (.int (3 : Int32)), .val (.int (1 : Int32)), .unset, .unset] [(.int (3 : Int32))])) _
                exact k
              obtain ⟨T403, h403, kn403, X403, e403, E403, A403, st403⟩ := newP X0 hx hZ (hw _ (List.mem_of_getElem? (i := 8) rfl)) e0 (g := (mkF m 21 #[.val (.ref a1), .val (.int (3 : Int32)), .val (.int (3 : Int32)), .val (.int (1 : Int32)), .unset, .unset] [(.int (3 : Int32))])) rfl (hb hby d3_21) rfl (by decide) (cap := 3) (by decide) (by decide) (by decide) (by decide)
              obtain ⟨b403, g403⟩ : ∃ z, z = h0.size := ⟨_, rfl⟩
              rw [← g403] at A403 st403
              have ne_a1_b403 : a1 ≠ b403 := Nat.ne_of_lt (Nat.lt_of_lt_of_le V1.lt (Nat.le_of_eq g403.symm))
              have g_b403 : n0 ≤ b403 := Nat.le_trans Z0 (Nat.le_of_eq g403.symm)
              have sz_b403 : h0.size ≤ b403 := Nat.le_trans KP0.1 (Nat.le_of_eq g403.symm)
              have f404 := V1.ext E403
              have Z405 : n0 ≤ h403.size := Nat.le_trans Z0 E403.1
              have KP406 : Keep h0 h403 [] := KP0.ext E403
              have K407 : ∀ t, Steps p.tables e below (T403.setTop (mkF m 23 #[.val (.ref a1), .val (.int (3 : Int32)), .val (.int (3 : Int32)), .val (.int (1 : Int32)), .unset, .unset] [(.ref b403)])) t → Steps p.tables e below G t := fun t k => K402 t (st403 t k)
              have V403 : Arv Z h403 b403 kn403 .int (3 : Int32) [(.int (0 : Int32)), (.int (0 : Int32)), (.int (0 : Int32))] (.int (0 : Int32)) := (Arv.new A403 (by decide)).pad (pad_rep [] (.int (0 : Int32)) 3)
              have K408 : ∀ t, Steps p.tables e below (T403.setTop (mkF m 42 #[.val (.ref a1), .val (.int (3 : Int32)), .val (.int (3 : Int32)), .val (.ref b403), .val (.int (3 : Int32)), .val (.int (2 : Int32))] [(.int (3 : Int32)), (.int (2 : Int32)), (.ref b403)])) t → Steps p.tables e below G t := by
                intro t k
                refine K407 t ?_
                show Steps p.tables e below (T403.setTop (mkF m 23 #[.val (.ref a1), .val (.int (3 : Int32)), .val (.int (3 : Int32)), .val (.int (1 : Int32)), .unset, .unset] [(.ref b403)])) _
                refine XS.astoreN X403.here hx rfl (hb hby d3_23) rfl rfl (l' := #[.val (.ref a1), .val (.int (3 : Int32)), .val (.int (3 : Int32)), .val (.ref b403), .unset, .unset]) rfl ?_
                refine XS.iloadN X403.here hx rfl (hb hby d3_24) rfl ?_
                refine XS.istore X403.here hx rfl (hb hby d3_25) rfl (l' := #[.val (.ref a1), .val (.int (3 : Int32)), .val (.int (3 : Int32)), .val (.ref b403), .val (.int (3 : Int32)), .unset]) rfl ?_
                refine XS.iloadN X403.here hx rfl (hb hby d3_27) rfl ?_
                show Steps p.tables e below (T403.setTop (mkF m 28 #[.val (.ref a1), .val (.int (3 : Int32)), .val (.int (3 : Int32)), .val (.ref b403), .val (.int (3 : Int32)), .unset] [(.int (3 : Int32))])) _
                refine XS.iconst X403.here hx rfl (hb hby d3_28) ?_
                refine XS.isub X403.here hx rfl (hb hby d3_29) rfl ?_
                refine XS.istore X403.here hx rfl (hb hby d3_30) rfl (l' := #[.val (.ref a1), .val (.int (3 : Int32)), .val (.int (3 : Int32)), .val (.ref b403), .val (.int (3 : Int32)), .val (.int (2 : Int32))]) rfl ?_
                refine XS.iload X403.here hx rfl (hb hby d3_32) rfl ?_
                show Steps p.tables e below (T403.setTop (mkF m 34 #[.val (.ref a1), .val (.int (3 : Int32)), .val (.int (3 : Int32)), .val (.ref b403), .val (.int (3 : Int32)), .val (.int (2 : Int32))] [(.int (2 : Int32))])) _
                refine XS.ifNo X403.here hx rfl (hb hby d3_34) rfl ((if0 _ _).trans (flt (by decide)).1) ?_
                refine XS.aloadN X403.here hx rfl (hb hby d3_37) rfl rfl ?_
                refine XS.iload X403.here hx rfl (hb hby d3_38) rfl ?_
                refine XS.iload X403.here hx rfl (hb hby d3_40) rfl ?_
                show Steps p.tables e below (T403.setTop (mkF m 42 #[.val (.ref a1), .val (.int (3 : Int32)), .val (.int (3 : Int32)), .val (.ref b403), .val (.int (3 : Int32)), .val (.int (2 : Int32))] [(.int (3 : Int32)), (.int (2 : Int32)), (.ref b403)])) _
                exact k
              obtain ⟨cl409, Ar409, qc409, S409, M409, Ha409, Ga409⟩ := id V403
              have hin409 : ¬ ((2 : Int32) < 0 ∨ cl409.slots.size ≤ ((2 : Int32)).toNatClampNeg) := inb_of S409 ⟨by decide, by decide⟩
              obtain ⟨T409, h409, X409, e409, W409, st409⟩ := stI X403 hx hZ e403 Ar409 (j := (2 : Int32)) hin409 (g := (mkF m 42 #[.val (.ref a1), .val (.int (3 : Int32)), .val (.int (3 : Int32)), .val (.ref b403), .val (.int (3 : Int32)), .val (.int (2 : Int32))] [(.int (3 : Int32)), (.int (2 : Int32)), (.ref b403)])) rfl rfl (hb hby d3_42)
              have V409 : Arv Z h409 b403 kn403 .int (3 : Int32) [(.int (0 : Int32)), (.int (0 : Int32)), (.int (3 : Int32))] (.int (0 : Int32)) := Arv.set Ar409 qc409 S409 M409 Ha409 Ga409 rfl W409 2 rfl (Nat.le_of_ble_eq_true rfl)
              have K410 : ∀ t, Steps p.tables e below (T409.setTop (mkF m 43 #[.val (.ref a1), .val (.int (3 : Int32)), .val (.int (3 : Int32)), .val (.ref b403), .val (.int (3 : Int32)), .val (.int (2 : Int32))] [])) t → Steps p.tables e below G t := fun t k => K408 t (st409 t k)
              have f411 := f404.other W409 ne_a1_b403
              have Z412 : n0 ≤ h409.size := Nat.le_trans Z405 (Keep.of_wr W409).1
              have KP413 : Keep h0 h409 [] := KP406.wr W409 (Or.inr sz_b403)
              have N414 := Fr.snoc X409 N0 g_b403
              have K415 : ∀ t, Steps p.tables e below (T409.setTop (mkF m 46 #[.val (.ref a1), .val (.int (3 : Int32)), .val (.int (3 : Int32)), .val (.ref b403), .val (.int (3 : Int32)), .val (.int (2 : Int32))] [(.int (3 : Int32)), (.ref a1)])) t → Steps p.tables e below G t := by
                intro t k
                refine K410 t ?_
                show Steps p.tables e below (T409.setTop (mkF m 43 #[.val (.ref a1), .val (.int (3 : Int32)), .val (.int (3 : Int32)), .val (.ref b403), .val (.int (3 : Int32)), .val (.int (2 : Int32))] [])) _
                refine XS.aloadN X409.here hx rfl (hb hby d3_43) rfl rfl ?_
                refine XS.iload X409.here hx rfl (hb hby d3_44) rfl ?_
                show Steps p.tables e below (T409.setTop (mkF m 46 #[.val (.ref a1), .val (.int (3 : Int32)), .val (.int (3 : Int32)), .val (.ref b403), .val (.int (3 : Int32)), .val (.int (2 : Int32))] [(.int (3 : Int32)), (.ref a1)])) _
                exact k
              obtain ⟨cl416, Ar416, qc416, S416, M416, Ha416, Ga416⟩ := id f411
              have hin416 : ¬ ((3 : Int32) < 0 ∨ cl416.slots.size ≤ ((3 : Int32)).toNatClampNeg) := inb_of S416 ⟨by decide, by decide⟩
              have hat416 : cl416.slots[((3 : Int32)).toNatClampNeg]? = some (.int (2 : Int32)) := Ha416.at hin416 rfl
              have K417 : ∀ t, Steps p.tables e below (T409.setTop (mkF m 47 #[.val (.ref a1), .val (.int (3 : Int32)), .val (.int (3 : Int32)), .val (.ref b403), .val (.int (3 : Int32)), .val (.int (2 : Int32))] [(.int (2 : Int32))])) t → Steps p.tables e below G t := fun t k => K415 t (X409.iaload hx (j := (3 : Int32)) (v := (.int (2 : Int32))) (by rw [e409]; exact Ar416.1) (State.isArrayOf_alike hZ.alike Ar416.2.1) Ar416.2.2 hin416 hat416 (g := (mkF m 46 #[.val (.ref a1), .val (.int (3 : Int32)), .val (.int (3 : Int32)), .val (.ref b403), .val (.int (3 : Int32)), .val (.int (2 : Int32))] [(.int (3 : Int32)), (.ref a1)])) rfl rfl (hb hby d3_46) _ k)
              have K418 : ∀ t, Steps p.tables e below (T409.setTop (mkF m 42 #[.val (.ref a1), .val (.int (3 : Int32)), .val (.int (3 : Int32)), .val (.ref b403), .val (.int (2 : Int32)), .val (.int (1 : Int32))] [(.int (2 : Int32)), (.int (1 : Int32)), (.ref b403)])) t → Steps p.tables e below G t := by
                intro t k
                refine K417 t ?_
                show Steps p.tables e below (T409.setTop (mkF m 47 #[.val (.ref a1), .val (.int (3 : Int32)), .val (.int (3 : Int32)), .val (.ref b403), .val (.int (3 : Int32)), .val (.int (2 : Int32))] [(.int (2 : Int32))])) _
                refine XS.istore X409.here hx rfl (hb hby d3_47) rfl (l' := #[.val (.ref a1), .val (.int (3 : Int32)), .val (.int (3 : Int32)), .val (.ref b403), .val (.int (2 : Int32)), .val (.int (2 : Int32))]) rfl ?_
                refine XS.iinc X409.here hx rfl (hb hby d3_49) rfl (l' := #[.val (.ref a1), .val (.int (3 : Int32)), .val (.int (3 : Int32)), .val (.ref b403), .val (.int (2 : Int32)), .val (.int (1 : Int32))]) rfl ?_
                refine XS.goto X409.here hx rfl (pc0 := 52) (pc' := 32) rfl (hb hby d3_52) (by decide) (by decide) ?_
                refine XS.iload X409.here hx rfl (hb hby d3_32) rfl ?_
                show Steps p.tables e below (T409.setTop (mkF m 34 #[.val (.ref a1), .val (.int (3 : Int32)), .val (.int (3 : Int32)), .val (.ref b403), .val (.int (2 : Int32)), .val (.int (1 : Int32))] [(.int (1 : Int32))])) _
                refine XS.ifNo X409.here hx rfl (hb hby d3_34) rfl ((if0 _ _).trans (flt (by decide)).1) ?_
                refine XS.aloadN X409.here hx rfl (hb hby d3_37) rfl rfl ?_
                refine XS.iload X409.here hx rfl (hb hby d3_38) rfl ?_
                refine XS.iload X409.here hx rfl (hb hby d3_40) rfl ?_
                show Steps p.tables e below (T409.setTop (mkF m 42 #[.val (.ref a1), .val (.int (3 : Int32)), .val (.int (3 : Int32)), .val (.ref b403), .val (.int (2 : Int32)), .val (.int (1 : Int32))] [(.int (2 : Int32)), (.int (1 : Int32)), (.ref b403)])) _
                exact k
              obtain ⟨cl419, Ar419, qc419, S419, M419, Ha419, Ga419⟩ := id V409
              have hin419 : ¬ ((1 : Int32) < 0 ∨ cl419.slots.size ≤ ((1 : Int32)).toNatClampNeg) := inb_of S419 ⟨by decide, by decide⟩
              obtain ⟨T419, h419, X419, e419, W419, st419⟩ := stI X409 hx hZ e409 Ar419 (j := (1 : Int32)) hin419 (g := (mkF m 42 #[.val (.ref a1), .val (.int (3 : Int32)), .val (.int (3 : Int32)), .val (.ref b403), .val (.int (2 : Int32)), .val (.int (1 : Int32))] [(.int (2 : Int32)), (.int (1 : Int32)), (.ref b403)])) rfl rfl (hb hby d3_42)
              have V419 : Arv Z h419 b403 kn403 .int (3 : Int32) [(.int (0 : Int32)), (.int (2 : Int32)), (.int (3 : Int32))] (.int (0 : Int32)) := Arv.set Ar419 qc419 S419 M419 Ha419 Ga419 rfl W419 1 rfl (Nat.le_of_ble_eq_true rfl)
              have K420 : ∀ t, Steps p.tables e below (T419.setTop (mkF m 43 #[.val (.ref a1), .val (.int (3 : Int32)), .val (.int (3 : Int32)), .val (.ref b403), .val (.int (2 : Int32)), .val (.int (1 : Int32))] [])) t → Steps p.tables e below G t := fun t k => K418 t (st419 t k)
              have f421 := f411.other W419 ne_a1_b403
              have Z422 : n0 ≤ h419.size := Nat.le_trans Z412 (Keep.of_wr W419).1
              have KP423 : Keep h0 h419 [] := KP413.wr W419 (Or.inr sz_b403)
              have N424 := Fr.snoc X419 N414 g_b403
              have K425 : ∀ t, Steps p.tables e below (T419.setTop (mkF m 46 #[.val (.ref a1), .val (.int (3 : Int32)), .val (.int (3 : Int32)), .val (.ref b403), .val (.int (2 : Int32)), .val (.int (1 : Int32))] [(.int (2 : Int32)), (.ref a1)])) t → Steps p.tables e below G t := by
                intro t k
                refine K420 t ?_
                show Steps p.tables e below (T419.setTop (mkF m 43 #[.val (.ref a1), .val (.int (3 : Int32)), .val (.int (3 : Int32)), .val (.ref b403), .val (.int (2 : Int32)), .val (.int (1 : Int32))] [])) _
                refine XS.aloadN X419.here hx rfl (hb hby d3_43) rfl rfl ?_
                refine XS.iload X419.here hx rfl (hb hby d3_44) rfl ?_
                show Steps p.tables e below (T419.setTop (mkF m 46 #[.val (.ref a1), .val (.int (3 : Int32)), .val (.int (3 : Int32)), .val (.ref b403), .val (.int (2 : Int32)), .val (.int (1 : Int32))] [(.int (2 : Int32)), (.ref a1)])) _
                exact k
              obtain ⟨cl426, Ar426, qc426, S426, M426, Ha426, Ga426⟩ := id f421
              have hin426 : ¬ ((2 : Int32) < 0 ∨ cl426.slots.size ≤ ((2 : Int32)).toNatClampNeg) := inb_of S426 ⟨by decide, by decide⟩
              have hat426 : cl426.slots[((2 : Int32)).toNatClampNeg]? = some (.int (1 : Int32)) := Ha426.at hin426 rfl
              have K427 : ∀ t, Steps p.tables e below (T419.setTop (mkF m 47 #[.val (.ref a1), .val (.int (3 : Int32)), .val (.int (3 : Int32)), .val (.ref b403), .val (.int (2 : Int32)), .val (.int (1 : Int32))] [(.int (1 : Int32))])) t → Steps p.tables e below G t := fun t k => K425 t (X419.iaload hx (j := (2 : Int32)) (v := (.int (1 : Int32))) (by rw [e419]; exact Ar426.1) (State.isArrayOf_alike hZ.alike Ar426.2.1) Ar426.2.2 hin426 hat426 (g := (mkF m 46 #[.val (.ref a1), .val (.int (3 : Int32)), .val (.int (3 : Int32)), .val (.ref b403), .val (.int (2 : Int32)), .val (.int (1 : Int32))] [(.int (2 : Int32)), (.ref a1)])) rfl rfl (hb hby d3_46) _ k)
              have K428 : ∀ t, Steps p.tables e below (T419.setTop (mkF m 42 #[.val (.ref a1), .val (.int (3 : Int32)), .val (.int (3 : Int32)), .val (.ref b403), .val (.int (1 : Int32)), .val (.int (0 : Int32))] [(.int (1 : Int32)), (.int (0 : Int32)), (.ref b403)])) t → Steps p.tables e below G t := by
                intro t k
                refine K427 t ?_
                show Steps p.tables e below (T419.setTop (mkF m 47 #[.val (.ref a1), .val (.int (3 : Int32)), .val (.int (3 : Int32)), .val (.ref b403), .val (.int (2 : Int32)), .val (.int (1 : Int32))] [(.int (1 : Int32))])) _
                refine XS.istore X419.here hx rfl (hb hby d3_47) rfl (l' := #[.val (.ref a1), .val (.int (3 : Int32)), .val (.int (3 : Int32)), .val (.ref b403), .val (.int (1 : Int32)), .val (.int (1 : Int32))]) rfl ?_
                refine XS.iinc X419.here hx rfl (hb hby d3_49) rfl (l' := #[.val (.ref a1), .val (.int (3 : Int32)), .val (.int (3 : Int32)), .val (.ref b403), .val (.int (1 : Int32)), .val (.int (0 : Int32))]) rfl ?_
                refine XS.goto X419.here hx rfl (pc0 := 52) (pc' := 32) rfl (hb hby d3_52) (by decide) (by decide) ?_
                refine XS.iload X419.here hx rfl (hb hby d3_32) rfl ?_
                show Steps p.tables e below (T419.setTop (mkF m 34 #[.val (.ref a1), .val (.int (3 : Int32)), .val (.int (3 : Int32)), .val (.ref b403), .val (.int (1 : Int32)), .val (.int (0 : Int32))] [(.int (0 : Int32))])) _
                refine XS.ifNo X419.here hx rfl (hb hby d3_34) rfl ((if0 _ _).trans (flt (by decide)).1) ?_
                refine XS.aloadN X419.here hx rfl (hb hby d3_37) rfl rfl ?_
                refine XS.iload X419.here hx rfl (hb hby d3_38) rfl ?_
                refine XS.iload X419.here hx rfl (hb hby d3_40) rfl ?_
                show Steps p.tables e below (T419.setTop (mkF m 42 #[.val (.ref a1), .val (.int (3 : Int32)), .val (.int (3 : Int32)), .val (.ref b403), .val (.int (1 : Int32)), .val (.int (0 : Int32))] [(.int (1 : Int32)), (.int (0 : Int32)), (.ref b403)])) _
                exact k
              obtain ⟨cl429, Ar429, qc429, S429, M429, Ha429, Ga429⟩ := id V419
              have hin429 : ¬ ((0 : Int32) < 0 ∨ cl429.slots.size ≤ ((0 : Int32)).toNatClampNeg) := inb_of S429 ⟨by decide, by decide⟩
              obtain ⟨T429, h429, X429, e429, W429, st429⟩ := stI X419 hx hZ e419 Ar429 (j := (0 : Int32)) hin429 (g := (mkF m 42 #[.val (.ref a1), .val (.int (3 : Int32)), .val (.int (3 : Int32)), .val (.ref b403), .val (.int (1 : Int32)), .val (.int (0 : Int32))] [(.int (1 : Int32)), (.int (0 : Int32)), (.ref b403)])) rfl rfl (hb hby d3_42)
              have V429 : Arv Z h429 b403 kn403 .int (3 : Int32) [(.int (1 : Int32)), (.int (2 : Int32)), (.int (3 : Int32))] (.int (0 : Int32)) := Arv.set Ar429 qc429 S429 M429 Ha429 Ga429 rfl W429 0 rfl (Nat.le_of_ble_eq_true rfl)
              have K430 : ∀ t, Steps p.tables e below (T429.setTop (mkF m 43 #[.val (.ref a1), .val (.int (3 : Int32)), .val (.int (3 : Int32)), .val (.ref b403), .val (.int (1 : Int32)), .val (.int (0 : Int32))] [])) t → Steps p.tables e below G t := fun t k => K428 t (st429 t k)
              have f431 := f421.other W429 ne_a1_b403
              have Z432 : n0 ≤ h429.size := Nat.le_trans Z422 (Keep.of_wr W429).1
              have KP433 : Keep h0 h429 [] := KP423.wr W429 (Or.inr sz_b403)
              have N434 := Fr.snoc X429 N424 g_b403
              have K435 : ∀ t, Steps p.tables e below (T429.setTop (mkF m 46 #[.val (.ref a1), .val (.int (3 : Int32)), .val (.int (3 : Int32)), .val (.ref b403), .val (.int (1 : Int32)), .val (.int (0 : Int32))] [(.int (1 : Int32)), (.ref a1)])) t → Steps p.tables e below G t := by
                intro t k
                refine K430 t ?_
                show Steps p.tables e below (T429.setTop (mkF m 43 #[.val (.ref a1), .val (.int (3 : Int32)), .val (.int (3 : Int32)), .val (.ref b403), .val (.int (1 : Int32)), .val (.int (0 : Int32))] [])) _
                refine XS.aloadN X429.here hx rfl (hb hby d3_43) rfl rfl ?_
                refine XS.iload X429.here hx rfl (hb hby d3_44) rfl ?_
                show Steps p.tables e below (T429.setTop (mkF m 46 #[.val (.ref a1), .val (.int (3 : Int32)), .val (.int (3 : Int32)), .val (.ref b403), .val (.int (1 : Int32)), .val (.int (0 : Int32))] [(.int (1 : Int32)), (.ref a1)])) _
                exact k
              obtain ⟨cl436, Ar436, qc436, S436, M436, Ha436, Ga436⟩ := id f431
              have hin436 : ¬ ((1 : Int32) < 0 ∨ cl436.slots.size ≤ ((1 : Int32)).toNatClampNeg) := inb_of S436 ⟨by decide, by decide⟩
              have hat436 : cl436.slots[((1 : Int32)).toNatClampNeg]? = some (.int q1) := Ha436.at hin436 rfl
              have K437 : ∀ t, Steps p.tables e below (T429.setTop (mkF m 47 #[.val (.ref a1), .val (.int (3 : Int32)), .val (.int (3 : Int32)), .val (.ref b403), .val (.int (1 : Int32)), .val (.int (0 : Int32))] [(.int q1)])) t → Steps p.tables e below G t := fun t k => K435 t (X429.iaload hx (j := (1 : Int32)) (v := (.int q1)) (by rw [e429]; exact Ar436.1) (State.isArrayOf_alike hZ.alike Ar436.2.1) Ar436.2.2 hin436 hat436 (g := (mkF m 46 #[.val (.ref a1), .val (.int (3 : Int32)), .val (.int (3 : Int32)), .val (.ref b403), .val (.int (1 : Int32)), .val (.int (0 : Int32))] [(.int (1 : Int32)), (.ref a1)])) rfl rfl (hb hby d3_46) _ k)
              obtain ⟨fs, hr, hrun, hended, hW, hsame⟩ := X429.leave (v := some (.ref b403)) (fun h => by rw [Bd.returns] at h; cases h)
              have KF := K437
              rw [hG] at KF
              refine ⟨_, _, KF _ ?_, hrun, hended, _, _, rfl, ?_, ⟨_, rfl⟩, hW, hsame.mono (by decide) (by decide)⟩
              · show Steps p.tables e below (T429.setTop (mkF m 47 #[.val (.ref a1), .val (.int (3 : Int32)), .val (.int (3 : Int32)), .val (.ref b403), .val (.int (1 : Int32)), .val (.int (0 : Int32))] [(.int q1)])) _
                refine XS.istore X429.here hx rfl (hb hby d3_47) rfl (l' := #[.val (.ref a1), .val (.int (3 : Int32)), .val (.int (3 : Int32)), .val (.ref b403), .val (.int q1), .val (.int (0 : Int32))]) rfl ?_
                refine XS.iinc X429.here hx rfl (hb hby d3_49) rfl (l' := #[.val (.ref a1), .val (.int (3 : Int32)), .val (.int (3 : Int32)), .val (.ref b403), .val (.int q1), .val (.int (-1 : Int32))]) rfl ?_
                refine XS.goto X429.here hx rfl (pc0 := 52) (pc' := 32) rfl (hb hby d3_52) (by decide) (by decide) ?_
                refine XS.iload X429.here hx rfl (hb hby d3_32) rfl ?_
                show Steps p.tables e below (T429.setTop (mkF m 34 #[.val (.ref a1), .val (.int (3 : Int32)), .val (.int (3 : Int32)), .val (.ref b403), .val (.int q1), .val (.int (-1 : Int32))] [(.int (-1 : Int32))])) _
                refine XS.ifYes X429.here hx rfl (pc0 := 34) (pc' := 55) rfl (hb hby d3_34) rfl ((if0 _ _).trans (tlt (by decide)).1) (by decide) (by decide) ?_
                refine XS.aloadN X429.here hx rfl (hb hby d3_55) rfl rfl ?_
                show Steps p.tables e below (T429.setTop (mkF m 56 #[.val (.ref a1), .val (.int (3 : Int32)), .val (.int (3 : Int32)), .val (.ref b403), .val (.int q1), .val (.int (-1 : Int32))] [(.ref b403)])) _
                exact own_retA X429 hx Bd.returns rfl rfl rfl (hb hby d3_56) hr
              · show Q3 Z (3 : Int32) [(.int q0), (.int q1), (.int (1 : Int32)), (.int (2 : Int32)), (.int q4)] h0 n0 _ T429.heap _
                rw [e429]
                exact ⟨_, _, _, _, rfl, N434, KP433, sz_b403, V429, ⟨by decide, by decide⟩, ⟨by decide, by decide⟩, rfl, Or.inr ⟨1, q1, 0, by decide, rfl, ⟨by decide, by decide⟩, rfl, Or.inl ⟨rfl, hc401⟩⟩, Or.inr ⟨2, 1, 1, by decide, rfl, ⟨by decide, by decide⟩, rfl, Or.inr ⟨by decide, ⟨by decide, by decide⟩, rfl, rfl⟩⟩, Or.inr ⟨3, 2, 2, by decide, rfl, ⟨by decide, by decide⟩, rfl, Or.inr ⟨by decide, ⟨by decide, by decide⟩, rfl, rfl⟩⟩, Or.inl (by decide), Or.inl (by decide)⟩
            · have K438 : ∀ t, Steps p.tables e below (s₁.setTop (mkF m 15 #[.val (.ref a1), .val (.int (3 : Int32)), .val (.int (4 : Int32)), .val (.int (1 : Int32)), .unset, .unset] [(.int (1 : Int32)), (.ref a1)])) t → Steps p.tables e below G t := by
                intro t k
                refine K400 t ?_
                show Steps p.tables e below (s₁.setTop (mkF m 7 #[.val (.ref a1), .val (.int (3 : Int32)), .val (.int (3 : Int32)), .val (.int (1 : Int32)), .unset, .unset] [(.int q1)])) _
                refine XS.ifNo X0.here hx rfl (hb hby d3_7) rfl ((if0 _ _).trans (flt hc401).1) ?_
                refine XS.iinc X0.here hx rfl (hb hby d3_10) rfl (l' := #[.val (.ref a1), .val (.int (3 : Int32)), .val (.int (4 : Int32)), .val (.int (1 : Int32)), .unset, .unset]) rfl ?_
                refine XS.aloadN X0.here hx rfl (hb hby d3_13) rfl rfl ?_
                refine XS.iloadN X0.here hx rfl (hb hby d3_14) rfl ?_
                show Steps p.tables e below (s₁.setTop (mkF m 15 #[.val (.ref a1), .val (.int (3 : Int32)), .val (.int (4 : Int32)), .val (.int (1 : Int32)), .unset, .unset] [(.int (1 : Int32)), (.ref a1)])) _
                exact k
              obtain ⟨cl439, Ar439, qc439, S439, M439, Ha439, Ga439⟩ := id V1
              have hin439 : ¬ ((1 : Int32) < 0 ∨ cl439.slots.size ≤ ((1 : Int32)).toNatClampNeg) := inb_of S439 ⟨by decide, by decide⟩
              have hat439 : cl439.slots[((1 : Int32)).toNatClampNeg]? = some (.int q1) := Ha439.at hin439 rfl
              have K440 : ∀ t, Steps p.tables e below (s₁.setTop (mkF m 16 #[.val (.ref a1), .val (.int (3 : Int32)), .val (.int (4 : Int32)), .val (.int (1 : Int32)), .unset, .unset] [(.int q1)])) t → Steps p.tables e below G t := fun t k => K438 t (X0.iaload hx (j := (1 : Int32)) (v := (.int q1)) (by rw [e0]; exact Ar439.1) (State.isArrayOf_alike hZ.alike Ar439.2.1) Ar439.2.2 hin439 hat439 (g := (mkF m 15 #[.val (.ref a1), .val (.int (3 : Int32)), .val (.int (4 : Int32)), .val (.int (1 : Int32)), .unset, .unset] [(.int (1 : Int32)), (.ref a1)])) rfl rfl (hb hby d3_15) _ k)
              have K441 : ∀ t, Steps p.tables e below (s₁.setTop (mkF m 4 #[.val (.ref a1), .val (.int (3 : Int32)), .val (.int (4 : Int32)), .val (.int q1), .unset, .unset] [])) t → Steps p.tables e below G t := by
                intro t k
                refine K440 t ?_
                show Steps p.tables e below (s₁.setTop (mkF m 16 #[.val (.ref a1), .val (.int (3 : Int32)), .val (.int (4 : Int32)), .val (.int (1 : Int32)), .unset, .unset] [(.int q1)])) _
                refine XS.istoreN X0.here hx rfl (hb hby d3_16) rfl (l' := #[.val (.ref a1), .val (.int (3 : Int32)), .val (.int (4 : Int32)), .val (.int q1), .unset, .unset]) rfl ?_
                refine XS.goto X0.here hx rfl (pc0 := 17) (pc' := 4) rfl (hb hby d3_17) (by decide) (by decide) ?_
                show Steps p.tables e below (s₁.setTop (mkF m 4 #[.val (.ref a1), .val (.int (3 : Int32)), .val (.int (4 : Int32)), .val (.int q1), .unset, .unset] [])) _
                exact k
              obtain rfl := own_lt1 hc401 hq1
              · have K442 : ∀ t, Steps p.tables e below (s₁.setTop (mkF m 6 #[.val (.ref a1), .val (.int (3 : Int32)), .val (.int (4 : Int32)), .val (.int (0 : Int32)), .unset, .unset] [(.int (0 : Int32)), (.ref a1)])) t → Steps p.tables e below G t := by
                  intro t k
                  refine K441 t ?_
                  show Steps p.tables e below (s₁.setTop (mkF m 4 #[.val (.ref a1), .val (.int (3 : Int32)), .val (.int (4 : Int32)), .val (.int (0 : Int32)), .unset, .unset] [])) _
                  refine XS.aloadN X0.here hx rfl (hb hby d3_4) rfl rfl ?_
                  refine XS.iloadN X0.here hx rfl (hb hby d3_5) rfl ?_
                  show Steps p.tables e below (s₁.setTop (mkF m 6 #[.val (.ref a1), .val (.int (3 : Int32)), .val (.int (4 : Int32)), .val (.int (0 : Int32)), .unset, .unset] [(.int (0 : Int32)), (.ref a1)])) _
                  exact k
                obtain ⟨cl443, Ar443, qc443, S443, M443, Ha443, Ga443⟩ := id V1
                have hin443 : ¬ ((0 : Int32) < 0 ∨ cl443.slots.size ≤ ((0 : Int32)).toNatClampNeg) := inb_of S443 ⟨by decide, by decide⟩
                have hat443 : cl443.slots[((0 : Int32)).toNatClampNeg]? = some (.int q0) := Ha443.at hin443 rfl
                have K444 : ∀ t, Steps p.tables e below (s₁.setTop (mkF m 7 #[.val (.ref a1), .val (.int (3 : Int32)), .val (.int (4 : Int32)), .val (.int (0 : Int32)), .unset, .unset] [(.int q0)])) t → Steps p.tables e below G t := fun t k => K442 t (X0.iaload hx (j := (0 : Int32)) (v := (.int q0)) (by rw [e0]; exact Ar443.1) (State.isArrayOf_alike hZ.alike Ar443.2.1) Ar443.2.2 hin443 hat443 (g := (mkF m 6 #[.val (.ref a1), .val (.int (3 : Int32)), .val (.int (4 : Int32)), .val (.int (0 : Int32)), .unset, .unset] [(.int (0 : Int32)), (.ref a1)])) rfl rfl (hb hby d3_6) _ k)
                have K445 : ∀ t, Steps p.tables e below (s₁.setTop (mkF m 21 #[.val (.ref a1), .val (.int (3 : Int32)), .val (.int (4 : Int32)), .val (.int (0 : Int32)), .unset, .unset] [(.int (4 : Int32))])) t → Steps p.tables e below G t := by
                  intro t k
                  refine K444 t ?_
                  show Steps p.tables e below (s₁.setTop (mkF m 7 #[.val (.ref a1), .val (.int (3 : Int32)), .val (.int (4 : Int32)), .val (.int (0 : Int32)), .unset, .unset] [(.int q0)])) _
                  refine XS.ifYes X0.here hx rfl (pc0 := 7) (pc' := 20) rfl (hb hby d3_7) rfl ((if0 _ _).trans (tlt hq0).1) (by decide) (by decide) ?_
                  refine XS.iloadN X0.here hx rfl (hb hby d3_20) rfl ?_
                  show Steps p.tables e below (s₁.setTop (mkF m 21 #[.val (.ref a1), .val (.int (3 : Int32)), .val (.int (4 : Int32)), .val (.int (0 : Int32)), .unset, .unset] [(.int (4 : Int32))])) _
                  exact k
                obtain ⟨T446, h446, kn446, X446, e446, E446, A446, st446⟩ := newP X0 hx hZ (hw _ (List.mem_of_getElem? (i := 8) rfl)) e0 (g := (mkF m 21 #[.val (.ref a1), .val (.int (3 : Int32)), .val (.int (4 : Int32)), .val (.int (0 : Int32)), .unset, .unset] [(.int (4 : Int32))])) rfl (hb hby d3_21) rfl (by decide) (cap := 4) (by decide) (by decide) (by decide) (by decide)
                obtain ⟨b446, g446⟩ : ∃ z, z = h0.size := ⟨_, rfl⟩
                rw [← g446] at A446 st446
                have ne_a1_b446 : a1 ≠ b446 := Nat.ne_of_lt (Nat.lt_of_lt_of_le V1.lt (Nat.le_of_eq g446.symm))
                have g_b446 : n0 ≤ b446 := Nat.le_trans Z0 (Nat.le_of_eq g446.symm)
                have sz_b446 : h0.size ≤ b446 := Nat.le_trans KP0.1 (Nat.le_of_eq g446.symm)
                have f447 := V1.ext E446
                have Z448 : n0 ≤ h446.size := Nat.le_trans Z0 E446.1
                have KP449 : Keep h0 h446 [] := KP0.ext E446
                have K450 : ∀ t, Steps p.tables e below (T446.setTop (mkF m 23 #[.val (.ref a1), .val (.int (3 : Int32)), .val (.int (4 : Int32)), .val (.int (0 : Int32)), .unset, .unset] [(.ref b446)])) t → Steps p.tables e below G t := fun t k => K445 t (st446 t k)
                have V446 : Arv Z h446 b446 kn446 .int (4 : Int32) [(.int (0 : Int32)), (.int (0 : Int32)), (.int (0 : Int32)), (.int (0 : Int32))] (.int (0 : Int32)) := (Arv.new A446 (by decide)).pad (pad_rep [] (.int (0 : Int32)) 4)
                have K451 : ∀ t, Steps p.tables e below (T446.setTop (mkF m 42 #[.val (.ref a1), .val (.int (3 : Int32)), .val (.int (4 : Int32)), .val (.ref b446), .val (.int (3 : Int32)), .val (.int (3 : Int32))] [(.int (3 : Int32)), (.int (3 : Int32)), (.ref b446)])) t → Steps p.tables e below G t := by
                  intro t k
                  refine K450 t ?_
                  show Steps p.tables e below (T446.setTop (mkF m 23 #[.val (.ref a1), .val (.int (3 : Int32)), .val (.int (4 : Int32)), .val (.int (0 : Int32)), .unset, .unset] [(.ref b446)])) _
                  refine XS.astoreN X446.here hx rfl (hb hby d3_23) rfl rfl (l' := #[.val (.ref a1), .val (.int (3 : Int32)), .val (.int (4 : Int32)), .val (.ref b446), .unset, .unset]) rfl ?_
                  refine XS.iloadN X446.here hx rfl (hb hby d3_24) rfl ?_
                  refine XS.istore X446.here hx rfl (hb hby d3_25) rfl (l' := #[.val (.ref a1), .val (.int (3 : Int32)), .val (.int (4 : Int32)), .val (.ref b446), .val (.int (3 : Int32)), .unset]) rfl ?_
                  refine XS.iloadN X446.here hx rfl (hb hby d3_27) rfl ?_
                  show Steps p.tables e below (T446.setTop (mkF m 28 #[.val (.ref a1), .val (.int (3 : Int32)), .val (.int (4 : Int32)), .val (.ref b446), .val (.int (3 : Int32)), .unset] [(.int (4 : Int32))])) _
                  refine XS.iconst X446.here hx rfl (hb hby d3_28) ?_
                  refine XS.isub X446.here hx rfl (hb hby d3_29) rfl ?_
                  refine XS.istore X446.here hx rfl (hb hby d3_30) rfl (l' := #[.val (.ref a1), .val (.int (3 : Int32)), .val (.int (4 : Int32)), .val (.ref b446), .val (.int (3 : Int32)), .val (.int (3 : Int32))]) rfl ?_
                  refine XS.iload X446.here hx rfl (hb hby d3_32) rfl ?_
                  show Steps p.tables e below (T446.setTop (mkF m 34 #[.val (.ref a1), .val (.int (3 : Int32)), .val (.int (4 : Int32)), .val (.ref b446), .val (.int (3 : Int32)), .val (.int (3 : Int32))] [(.int (3 : Int32))])) _
                  refine XS.ifNo X446.here hx rfl (hb hby d3_34) rfl ((if0 _ _).trans (flt (by decide)).1) ?_
                  refine XS.aloadN X446.here hx rfl (hb hby d3_37) rfl rfl ?_
                  refine XS.iload X446.here hx rfl (hb hby d3_38) rfl ?_
                  refine XS.iload X446.here hx rfl (hb hby d3_40) rfl ?_
                  show Steps p.tables e below (T446.setTop (mkF m 42 #[.val (.ref a1), .val (.int (3 : Int32)), .val (.int (4 : Int32)), .val (.ref b446), .val (.int (3 : Int32)), .val (.int (3 : Int32))] [(.int (3 : Int32)), (.int (3 : Int32)), (.ref b446)])) _
                  exact k
                obtain ⟨cl452, Ar452, qc452, S452, M452, Ha452, Ga452⟩ := id V446
                have hin452 : ¬ ((3 : Int32) < 0 ∨ cl452.slots.size ≤ ((3 : Int32)).toNatClampNeg) := inb_of S452 ⟨by decide, by decide⟩
                obtain ⟨T452, h452, X452, e452, W452, st452⟩ := stI X446 hx hZ e446 Ar452 (j := (3 : Int32)) hin452 (g := (mkF m 42 #[.val (.ref a1), .val (.int (3 : Int32)), .val (.int (4 : Int32)), .val (.ref b446), .val (.int (3 : Int32)), .val (.int (3 : Int32))] [(.int (3 : Int32)), (.int (3 : Int32)), (.ref b446)])) rfl rfl (hb hby d3_42)
                have V452 : Arv Z h452 b446 kn446 .int (4 : Int32) [(.int (0 : Int32)), (.int (0 : Int32)), (.int (0 : Int32)), (.int (3 : Int32))] (.int (0 : Int32)) := Arv.set Ar452 qc452 S452 M452 Ha452 Ga452 rfl W452 3 rfl (Nat.le_of_ble_eq_true rfl)
                have K453 : ∀ t, Steps p.tables e below (T452.setTop (mkF m 43 #[.val (.ref a1), .val (.int (3 : Int32)), .val (.int (4 : Int32)), .val (.ref b446), .val (.int (3 : Int32)), .val (.int (3 : Int32))] [])) t → Steps p.tables e below G t := fun t k => K451 t (st452 t k)
                have f454 := f447.other W452 ne_a1_b446
                have Z455 : n0 ≤ h452.size := Nat.le_trans Z448 (Keep.of_wr W452).1
                have KP456 : Keep h0 h452 [] := KP449.wr W452 (Or.inr sz_b446)
                have N457 := Fr.snoc X452 N0 g_b446
                have K458 : ∀ t, Steps p.tables e below (T452.setTop (mkF m 46 #[.val (.ref a1), .val (.int (3 : Int32)), .val (.int (4 : Int32)), .val (.ref b446), .val (.int (3 : Int32)), .val (.int (3 : Int32))] [(.int (3 : Int32)), (.ref a1)])) t → Steps p.tables e below G t := by
                  intro t k
                  refine K453 t ?_
                  show Steps p.tables e below (T452.setTop (mkF m 43 #[.val (.ref a1), .val (.int (3 : Int32)), .val (.int (4 : Int32)), .val (.ref b446), .val (.int (3 : Int32)), .val (.int (3 : Int32))] [])) _
                  refine XS.aloadN X452.here hx rfl (hb hby d3_43) rfl rfl ?_
                  refine XS.iload X452.here hx rfl (hb hby d3_44) rfl ?_
                  show Steps p.tables e below (T452.setTop (mkF m 46 #[.val (.ref a1), .val (.int (3 : Int32)), .val (.int (4 : Int32)), .val (.ref b446), .val (.int (3 : Int32)), .val (.int (3 : Int32))] [(.int (3 : Int32)), (.ref a1)])) _
                  exact k
                obtain ⟨cl459, Ar459, qc459, S459, M459, Ha459, Ga459⟩ := id f454
                have hin459 : ¬ ((3 : Int32) < 0 ∨ cl459.slots.size ≤ ((3 : Int32)).toNatClampNeg) := inb_of S459 ⟨by decide, by decide⟩
                have hat459 : cl459.slots[((3 : Int32)).toNatClampNeg]? = some (.int (2 : Int32)) := Ha459.at hin459 rfl
                have K460 : ∀ t, Steps p.tables e below (T452.setTop (mkF m 47 #[.val (.ref a1), .val (.int (3 : Int32)), .val (.int (4 : Int32)), .val (.ref b446), .val (.int (3 : Int32)), .val (.int (3 : Int32))] [(.int (2 : Int32))])) t → Steps p.tables e below G t := fun t k => K458 t (X452.iaload hx (j := (3 : Int32)) (v := (.int (2 : Int32))) (by rw [e452]; exact Ar459.1) (State.isArrayOf_alike hZ.alike Ar459.2.1) Ar459.2.2 hin459 hat459 (g := (mkF m 46 #[.val (.ref a1), .val (.int (3 : Int32)), .val (.int (4 : Int32)), .val (.ref b446), .val (.int (3 : Int32)), .val (.int (3 : Int32))] [(.int (3 : Int32)), (.ref a1)])) rfl rfl (hb hby d3_46) _ k)
                have K461 : ∀ t, Steps p.tables e below (T452.setTop (mkF m 42 #[.val (.ref a1), .val (.int (3 : Int32)), .val (.int (4 : Int32)), .val (.ref b446), .val (.int (2 : Int32)), .val (.int (2 : Int32))] [(.int (2 : Int32)), (.int (2 : Int32)), (.ref b446)])) t → Steps p.tables e below G t := by
                  intro t k
                  refine K460 t ?_
                  show Steps p.tables e below (T452.setTop (mkF m 47 #[.val (.ref a1), .val (.int (3 : Int32)), .val (.int (4 : Int32)), .val (.ref b446), .val (.int (3 : Int32)), .val (.int (3 : Int32))] [(.int (2 : Int32))])) _
                  refine XS.istore X452.here hx rfl (hb hby d3_47) rfl (l' := #[.val (.ref a1), .val (.int (3 : Int32)), .val (.int (4 : Int32)), .val (.ref b446), .val (.int (2 : Int32)), .val (.int (3 : Int32))]) rfl ?_
                  refine XS.iinc X452.here hx rfl (hb hby d3_49) rfl (l' := #[.val (.ref a1), .val (.int (3 : Int32)), .val (.int (4 : Int32)), .val (.ref b446), .val (.int (2 : Int32)), .val (.int (2 : Int32))]) rfl ?_
                  refine XS.goto X452.here hx rfl (pc0 := 52) (pc' := 32) rfl (hb hby d3_52) (by decide) (by decide) ?_
                  refine XS.iload X452.here hx rfl (hb hby d3_32) rfl ?_
                  show Steps p.tables e below (T452.setTop (mkF m 34 #[.val (.ref a1), .val (.int (3 : Int32)), .val (.int (4 : Int32)), .val (.ref b446), .val (.int (2 : Int32)), .val (.int (2 : Int32))] [(.int (2 : Int32))])) _
                  refine XS.ifNo X452.here hx rfl (hb hby d3_34) rfl ((if0 _ _).trans (flt (by decide)).1) ?_
                  refine XS.aloadN X452.here hx rfl (hb hby d3_37) rfl rfl ?_
                  refine XS.iload X452.here hx rfl (hb hby d3_38) rfl ?_
                  refine XS.iload X452.here hx rfl (hb hby d3_40) rfl ?_
                  show Steps p.tables e below (T452.setTop (mkF m 42 #[.val (.ref a1), .val (.int (3 : Int32)), .val (.int (4 : Int32)), .val (.ref b446), .val (.int (2 : Int32)), .val (.int (2 : Int32))] [(.int (2 : Int32)), (.int (2 : Int32)), (.ref b446)])) _
                  exact k
                obtain ⟨cl462, Ar462, qc462, S462, M462, Ha462, Ga462⟩ := id V452
                have hin462 : ¬ ((2 : Int32) < 0 ∨ cl462.slots.size ≤ ((2 : Int32)).toNatClampNeg) := inb_of S462 ⟨by decide, by decide⟩
                obtain ⟨T462, h462, X462, e462, W462, st462⟩ := stI X452 hx hZ e452 Ar462 (j := (2 : Int32)) hin462 (g := (mkF m 42 #[.val (.ref a1), .val (.int (3 : Int32)), .val (.int (4 : Int32)), .val (.ref b446), .val (.int (2 : Int32)), .val (.int (2 : Int32))] [(.int (2 : Int32)), (.int (2 : Int32)), (.ref b446)])) rfl rfl (hb hby d3_42)
                have V462 : Arv Z h462 b446 kn446 .int (4 : Int32) [(.int (0 : Int32)), (.int (0 : Int32)), (.int (2 : Int32)), (.int (3 : Int32))] (.int (0 : Int32)) := Arv.set Ar462 qc462 S462 M462 Ha462 Ga462 rfl W462 2 rfl (Nat.le_of_ble_eq_true rfl)
                have K463 : ∀ t, Steps p.tables e below (T462.setTop (mkF m 43 #[.val (.ref a1), .val (.int (3 : Int32)), .val (.int (4 : Int32)), .val (.ref b446), .val (.int (2 : Int32)), .val (.int (2 : Int32))] [])) t → Steps p.tables e below G t := fun t k => K461 t (st462 t k)
                have f464 := f454.other W462 ne_a1_b446
                have Z465 : n0 ≤ h462.size := Nat.le_trans Z455 (Keep.of_wr W462).1
                have KP466 : Keep h0 h462 [] := KP456.wr W462 (Or.inr sz_b446)
                have N467 := Fr.snoc X462 N457 g_b446
                have K468 : ∀ t, Steps p.tables e below (T462.setTop (mkF m 46 #[.val (.ref a1), .val (.int (3 : Int32)), .val (.int (4 : Int32)), .val (.ref b446), .val (.int (2 : Int32)), .val (.int (2 : Int32))] [(.int (2 : Int32)), (.ref a1)])) t → Steps p.tables e below G t := by
                  intro t k
                  refine K463 t ?_
                  show Steps p.tables e below (T462.setTop (mkF m 43 #[.val (.ref a1), .val (.int (3 : Int32)), .val (.int (4 : Int32)), .val (.ref b446), .val (.int (2 : Int32)), .val (.int (2 : Int32))] [])) _
                  refine XS.aloadN X462.here hx rfl (hb hby d3_43) rfl rfl ?_
                  refine XS.iload X462.here hx rfl (hb hby d3_44) rfl ?_
                  show Steps p.tables e below (T462.setTop (mkF m 46 #[.val (.ref a1), .val (.int (3 : Int32)), .val (.int (4 : Int32)), .val (.ref b446), .val (.int (2 : Int32)), .val (.int (2 : Int32))] [(.int (2 : Int32)), (.ref a1)])) _
                  exact k
                obtain ⟨cl469, Ar469, qc469, S469, M469, Ha469, Ga469⟩ := id f464
                have hin469 : ¬ ((2 : Int32) < 0 ∨ cl469.slots.size ≤ ((2 : Int32)).toNatClampNeg) := inb_of S469 ⟨by decide, by decide⟩
                have hat469 : cl469.slots[((2 : Int32)).toNatClampNeg]? = some (.int (1 : Int32)) := Ha469.at hin469 rfl
                have K470 : ∀ t, Steps p.tables e below (T462.setTop (mkF m 47 #[.val (.ref a1), .val (.int (3 : Int32)), .val (.int (4 : Int32)), .val (.ref b446), .val (.int (2 : Int32)), .val (.int (2 : Int32))] [(.int (1 : Int32))])) t → Steps p.tables e below G t := fun t k => K468 t (X462.iaload hx (j := (2 : Int32)) (v := (.int (1 : Int32))) (by rw [e462]; exact Ar469.1) (State.isArrayOf_alike hZ.alike Ar469.2.1) Ar469.2.2 hin469 hat469 (g := (mkF m 46 #[.val (.ref a1), .val (.int (3 : Int32)), .val (.int (4 : Int32)), .val (.ref b446), .val (.int (2 : Int32)), .val (.int (2 : Int32))] [(.int (2 : Int32)), (.ref a1)])) rfl rfl (hb hby d3_46) _ k)
                have K471 : ∀ t, Steps p.tables e below (T462.setTop (mkF m 42 #[.val (.ref a1), .val (.int (3 : Int32)), .val (.int (4 : Int32)), .val (.ref b446), .val (.int (1 : Int32)), .val (.int (1 : Int32))] [(.int (1 : Int32)), (.int (1 : Int32)), (.ref b446)])) t → Steps p.tables e below G t := by
                  intro t k
                  refine K470 t ?_
                  show Steps p.tables e below (T462.setTop (mkF m 47 #[.val (.ref a1), .val (.int (3 : Int32)), .val (.int (4 : Int32)), .val (.ref b446), .val (.int (2 : Int32)), .val (.int (2 : Int32))] [(.int (1 : Int32))])) _
                  refine XS.istore X462.here hx rfl (hb hby d3_47) rfl (l' := #[.val (.ref a1), .val (.int (3 : Int32)), .val (.int (4 : Int32)), .val (.ref b446), .val (.int (1 : Int32)), .val (.int (2 : Int32))]) rfl ?_
                  refine XS.iinc X462.here hx rfl (hb hby d3_49) rfl (l' := #[.val (.ref a1), .val (.int (3 : Int32)), .val (.int (4 : Int32)), .val (.ref b446), .val (.int (1 : Int32)), .val (.int (1 : Int32))]) rfl ?_
                  refine XS.goto X462.here hx rfl (pc0 := 52) (pc' := 32) rfl (hb hby d3_52) (by decide) (by decide) ?_
                  refine XS.iload X462.here hx rfl (hb hby d3_32) rfl ?_
                  show Steps p.tables e below (T462.setTop (mkF m 34 #[.val (.ref a1), .val (.int (3 : Int32)), .val (.int (4 : Int32)), .val (.ref b446), .val (.int (1 : Int32)), .val (.int (1 : Int32))] [(.int (1 : Int32))])) _
                  refine XS.ifNo X462.here hx rfl (hb hby d3_34) rfl ((if0 _ _).trans (flt (by decide)).1) ?_
                  refine XS.aloadN X462.here hx rfl (hb hby d3_37) rfl rfl ?_
                  refine XS.iload X462.here hx rfl (hb hby d3_38) rfl ?_
                  refine XS.iload X462.here hx rfl (hb hby d3_40) rfl ?_
                  show Steps p.tables e below (T462.setTop (mkF m 42 #[.val (.ref a1), .val (.int (3 : Int32)), .val (.int (4 : Int32)), .val (.ref b446), .val (.int (1 : Int32)), .val (.int (1 : Int32))] [(.int (1 : Int32)), (.int (1 : Int32)), (.ref b446)])) _
                  exact k
                obtain ⟨cl472, Ar472, qc472, S472, M472, Ha472, Ga472⟩ := id V462
                have hin472 : ¬ ((1 : Int32) < 0 ∨ cl472.slots.size ≤ ((1 : Int32)).toNatClampNeg) := inb_of S472 ⟨by decide, by decide⟩
                obtain ⟨T472, h472, X472, e472, W472, st472⟩ := stI X462 hx hZ e462 Ar472 (j := (1 : Int32)) hin472 (g := (mkF m 42 #[.val (.ref a1), .val (.int (3 : Int32)), .val (.int (4 : Int32)), .val (.ref b446), .val (.int (1 : Int32)), .val (.int (1 : Int32))] [(.int (1 : Int32)), (.int (1 : Int32)), (.ref b446)])) rfl rfl (hb hby d3_42)
                have V472 : Arv Z h472 b446 kn446 .int (4 : Int32) [(.int (0 : Int32)), (.int (1 : Int32)), (.int (2 : Int32)), (.int (3 : Int32))] (.int (0 : Int32)) := Arv.set Ar472 qc472 S472 M472 Ha472 Ga472 rfl W472 1 rfl (Nat.le_of_ble_eq_true rfl)
                have K473 : ∀ t, Steps p.tables e below (T472.setTop (mkF m 43 #[.val (.ref a1), .val (.int (3 : Int32)), .val (.int (4 : Int32)), .val (.ref b446), .val (.int (1 : Int32)), .val (.int (1 : Int32))] [])) t → Steps p.tables e below G t := fun t k => K471 t (st472 t k)
                have f474 := f464.other W472 ne_a1_b446
                have Z475 : n0 ≤ h472.size := Nat.le_trans Z465 (Keep.of_wr W472).1
                have KP476 : Keep h0 h472 [] := KP466.wr W472 (Or.inr sz_b446)
                have N477 := Fr.snoc X472 N467 g_b446
                have K478 : ∀ t, Steps p.tables e below (T472.setTop (mkF m 46 #[.val (.ref a1), .val (.int (3 : Int32)), .val (.int (4 : Int32)), .val (.ref b446), .val (.int (1 : Int32)), .val (.int (1 : Int32))] [(.int (1 : Int32)), (.ref a1)])) t → Steps p.tables e below G t := by
                  intro t k
                  refine K473 t ?_
                  show Steps p.tables e below (T472.setTop (mkF m 43 #[.val (.ref a1), .val (.int (3 : Int32)), .val (.int (4 : Int32)), .val (.ref b446), .val (.int (1 : Int32)), .val (.int (1 : Int32))] [])) _
                  refine XS.aloadN X472.here hx rfl (hb hby d3_43) rfl rfl ?_
                  refine XS.iload X472.here hx rfl (hb hby d3_44) rfl ?_
                  show Steps p.tables e below (T472.setTop (mkF m 46 #[.val (.ref a1), .val (.int (3 : Int32)), .val (.int (4 : Int32)), .val (.ref b446), .val (.int (1 : Int32)), .val (.int (1 : Int32))] [(.int (1 : Int32)), (.ref a1)])) _
                  exact k
                obtain ⟨cl479, Ar479, qc479, S479, M479, Ha479, Ga479⟩ := id f474
                have hin479 : ¬ ((1 : Int32) < 0 ∨ cl479.slots.size ≤ ((1 : Int32)).toNatClampNeg) := inb_of S479 ⟨by decide, by decide⟩
                have hat479 : cl479.slots[((1 : Int32)).toNatClampNeg]? = some (.int (0 : Int32)) := Ha479.at hin479 rfl
                have K480 : ∀ t, Steps p.tables e below (T472.setTop (mkF m 47 #[.val (.ref a1), .val (.int (3 : Int32)), .val (.int (4 : Int32)), .val (.ref b446), .val (.int (1 : Int32)), .val (.int (1 : Int32))] [(.int (0 : Int32))])) t → Steps p.tables e below G t := fun t k => K478 t (X472.iaload hx (j := (1 : Int32)) (v := (.int (0 : Int32))) (by rw [e472]; exact Ar479.1) (State.isArrayOf_alike hZ.alike Ar479.2.1) Ar479.2.2 hin479 hat479 (g := (mkF m 46 #[.val (.ref a1), .val (.int (3 : Int32)), .val (.int (4 : Int32)), .val (.ref b446), .val (.int (1 : Int32)), .val (.int (1 : Int32))] [(.int (1 : Int32)), (.ref a1)])) rfl rfl (hb hby d3_46) _ k)
                have K481 : ∀ t, Steps p.tables e below (T472.setTop (mkF m 42 #[.val (.ref a1), .val (.int (3 : Int32)), .val (.int (4 : Int32)), .val (.ref b446), .val (.int (0 : Int32)), .val (.int (0 : Int32))] [(.int (0 : Int32)), (.int (0 : Int32)), (.ref b446)])) t → Steps p.tables e below G t := by
                  intro t k
                  refine K480 t ?_
                  show Steps p.tables e below (T472.setTop (mkF m 47 #[.val (.ref a1), .val (.int (3 : Int32)), .val (.int (4 : Int32)), .val (.ref b446), .val (.int (1 : Int32)), .val (.int (1 : Int32))] [(.int (0 : Int32))])) _
                  refine XS.istore X472.here hx rfl (hb hby d3_47) rfl (l' := #[.val (.ref a1), .val (.int (3 : Int32)), .val (.int (4 : Int32)), .val (.ref b446), .val (.int (0 : Int32)), .val (.int (1 : Int32))]) rfl ?_
                  refine XS.iinc X472.here hx rfl (hb hby d3_49) rfl (l' := #[.val (.ref a1), .val (.int (3 : Int32)), .val (.int (4 : Int32)), .val (.ref b446), .val (.int (0 : Int32)), .val (.int (0 : Int32))]) rfl ?_
                  refine XS.goto X472.here hx rfl (pc0 := 52) (pc' := 32) rfl (hb hby d3_52) (by decide) (by decide) ?_
                  refine XS.iload X472.here hx rfl (hb hby d3_32) rfl ?_
                  show Steps p.tables e below (T472.setTop (mkF m 34 #[.val (.ref a1), .val (.int (3 : Int32)), .val (.int (4 : Int32)), .val (.ref b446), .val (.int (0 : Int32)), .val (.int (0 : Int32))] [(.int (0 : Int32))])) _
                  refine XS.ifNo X472.here hx rfl (hb hby d3_34) rfl ((if0 _ _).trans (flt (by decide)).1) ?_
                  refine XS.aloadN X472.here hx rfl (hb hby d3_37) rfl rfl ?_
                  refine XS.iload X472.here hx rfl (hb hby d3_38) rfl ?_
                  refine XS.iload X472.here hx rfl (hb hby d3_40) rfl ?_
                  show Steps p.tables e below (T472.setTop (mkF m 42 #[.val (.ref a1), .val (.int (3 : Int32)), .val (.int (4 : Int32)), .val (.ref b446), .val (.int (0 : Int32)), .val (.int (0 : Int32))] [(.int (0 : Int32)), (.int (0 : Int32)), (.ref b446)])) _
                  exact k
                obtain ⟨cl482, Ar482, qc482, S482, M482, Ha482, Ga482⟩ := id V472
                have hin482 : ¬ ((0 : Int32) < 0 ∨ cl482.slots.size ≤ ((0 : Int32)).toNatClampNeg) := inb_of S482 ⟨by decide, by decide⟩
                obtain ⟨T482, h482, X482, e482, W482, st482⟩ := stI X472 hx hZ e472 Ar482 (j := (0 : Int32)) hin482 (g := (mkF m 42 #[.val (.ref a1), .val (.int (3 : Int32)), .val (.int (4 : Int32)), .val (.ref b446), .val (.int (0 : Int32)), .val (.int (0 : Int32))] [(.int (0 : Int32)), (.int (0 : Int32)), (.ref b446)])) rfl rfl (hb hby d3_42)
                have V482 : Arv Z h482 b446 kn446 .int (4 : Int32) [(.int (0 : Int32)), (.int (1 : Int32)), (.int (2 : Int32)), (.int (3 : Int32))] (.int (0 : Int32)) := Arv.set Ar482 qc482 S482 M482 Ha482 Ga482 rfl W482 0 rfl (Nat.le_of_ble_eq_true rfl)
                have K483 : ∀ t, Steps p.tables e below (T482.setTop (mkF m 43 #[.val (.ref a1), .val (.int (3 : Int32)), .val (.int (4 : Int32)), .val (.ref b446), .val (.int (0 : Int32)), .val (.int (0 : Int32))] [])) t → Steps p.tables e below G t := fun t k => K481 t (st482 t k)
                have f484 := f474.other W482 ne_a1_b446
                have Z485 : n0 ≤ h482.size := Nat.le_trans Z475 (Keep.of_wr W482).1
                have KP486 : Keep h0 h482 [] := KP476.wr W482 (Or.inr sz_b446)
                have N487 := Fr.snoc X482 N477 g_b446
                have K488 : ∀ t, Steps p.tables e below (T482.setTop (mkF m 46 #[.val (.ref a1), .val (.int (3 : Int32)), .val (.int (4 : Int32)), .val (.ref b446), .val (.int (0 : Int32)), .val (.int (0 : Int32))] [(.int (0 : Int32)), (.ref a1)])) t → Steps p.tables e below G t := by
                  intro t k
                  refine K483 t ?_
                  show Steps p.tables e below (T482.setTop (mkF m 43 #[.val (.ref a1), .val (.int (3 : Int32)), .val (.int (4 : Int32)), .val (.ref b446), .val (.int (0 : Int32)), .val (.int (0 : Int32))] [])) _
                  refine XS.aloadN X482.here hx rfl (hb hby d3_43) rfl rfl ?_
                  refine XS.iload X482.here hx rfl (hb hby d3_44) rfl ?_
                  show Steps p.tables e below (T482.setTop (mkF m 46 #[.val (.ref a1), .val (.int (3 : Int32)), .val (.int (4 : Int32)), .val (.ref b446), .val (.int (0 : Int32)), .val (.int (0 : Int32))] [(.int (0 : Int32)), (.ref a1)])) _
                  exact k
                obtain ⟨cl489, Ar489, qc489, S489, M489, Ha489, Ga489⟩ := id f484
                have hin489 : ¬ ((0 : Int32) < 0 ∨ cl489.slots.size ≤ ((0 : Int32)).toNatClampNeg) := inb_of S489 ⟨by decide, by decide⟩
                have hat489 : cl489.slots[((0 : Int32)).toNatClampNeg]? = some (.int q0) := Ha489.at hin489 rfl
                have K490 : ∀ t, Steps p.tables e below (T482.setTop (mkF m 47 #[.val (.ref a1), .val (.int (3 : Int32)), .val (.int (4 : Int32)), .val (.ref b446), .val (.int (0 : Int32)), .val (.int (0 : Int32))] [(.int q0)])) t → Steps p.tables e below G t := fun t k => K488 t (X482.iaload hx (j := (0 : Int32)) (v := (.int q0)) (by rw [e482]; exact Ar489.1) (State.isArrayOf_alike hZ.alike Ar489.2.1) Ar489.2.2 hin489 hat489 (g := (mkF m 46 #[.val (.ref a1), .val (.int (3 : Int32)), .val (.int (4 : Int32)), .val (.ref b446), .val (.int (0 : Int32)), .val (.int (0 : Int32))] [(.int (0 : Int32)), (.ref a1)])) rfl rfl (hb hby d3_46) _ k)
                obtain ⟨fs, hr, hrun, hended, hW, hsame⟩ := X482.leave (v := some (.ref b446)) (fun h => by rw [Bd.returns] at h; cases h)
                have KF := K490
                rw [hG] at KF
                refine ⟨_, _, KF _ ?_, hrun, hended, _, _, rfl, ?_, ⟨_, rfl⟩, hW, hsame.mono (by decide) (by decide)⟩
                · show Steps p.tables e below (T482.setTop (mkF m 47 #[.val (.ref a1), .val (.int (3 : Int32)), .val (.int (4 : Int32)), .val (.ref b446), .val (.int (0 : Int32)), .val (.int (0 : Int32))] [(.int q0)])) _
                  refine XS.istore X482.here hx rfl (hb hby d3_47) rfl (l' := #[.val (.ref a1), .val (.int (3 : Int32)), .val (.int (4 : Int32)), .val (.ref b446), .val (.int q0), .val (.int (0 : Int32))]) rfl ?_
                  refine XS.iinc X482.here hx rfl (hb hby d3_49) rfl (l' := #[.val (.ref a1), .val (.int (3 : Int32)), .val (.int (4 : Int32)), .val (.ref b446), .val (.int q0), .val (.int (-1 : Int32))]) rfl ?_
                  refine XS.goto X482.here hx rfl (pc0 := 52) (pc' := 32) rfl (hb hby d3_52) (by decide) (by decide) ?_
                  refine XS.iload X482.here hx rfl (hb hby d3_32) rfl ?_
                  show Steps p.tables e below (T482.setTop (mkF m 34 #[.val (.ref a1), .val (.int (3 : Int32)), .val (.int (4 : Int32)), .val (.ref b446), .val (.int q0), .val (.int (-1 : Int32))] [(.int (-1 : Int32))])) _
                  refine XS.ifYes X482.here hx rfl (pc0 := 34) (pc' := 55) rfl (hb hby d3_34) rfl ((if0 _ _).trans (tlt (by decide)).1) (by decide) (by decide) ?_
                  refine XS.aloadN X482.here hx rfl (hb hby d3_55) rfl rfl ?_
                  show Steps p.tables e below (T482.setTop (mkF m 56 #[.val (.ref a1), .val (.int (3 : Int32)), .val (.int (4 : Int32)), .val (.ref b446), .val (.int q0), .val (.int (-1 : Int32))] [(.ref b446)])) _
                  exact own_retA X482 hx Bd.returns rfl rfl rfl (hb hby d3_56) hr
                · show Q3 Z (3 : Int32) [(.int q0), (.int (0 : Int32)), (.int (1 : Int32)), (.int (2 : Int32)), (.int q4)] h0 n0 _ T482.heap _
                  rw [e482]
                  exact ⟨_, _, _, _, rfl, N487, KP486, sz_b446, V482, ⟨by decide, by decide⟩, ⟨by decide, by decide⟩, rfl, Or.inr ⟨0, q0, 0, by decide, rfl, ⟨by decide, by decide⟩, rfl, Or.inl ⟨rfl, hq0⟩⟩, Or.inr ⟨1, 0, 0, by decide, rfl, ⟨by decide, by decide⟩, rfl, Or.inr ⟨by decide, ⟨by decide, by decide⟩, rfl, rfl⟩⟩, Or.inr ⟨2, 1, 1, by decide, rfl, ⟨by decide, by decide⟩, rfl, Or.inr ⟨by decide, ⟨by decide, by decide⟩, rfl, rfl⟩⟩, Or.inr ⟨3, 2, 2, by decide, rfl, ⟨by decide, by decide⟩, rfl, Or.inr ⟨by decide, ⟨by decide, by decide⟩, rfl, rfl⟩⟩, Or.inl (by decide)⟩
  · have K491 : ∀ t, Steps p.tables e below (s₁.setTop (mkF m 6 #[.val (.ref a1), .val (.int (4 : Int32)), .val (.int (1 : Int32)), .val (.int (4 : Int32)), .unset, .unset] [(.int (4 : Int32)), (.ref a1)])) t → Steps p.tables e below G t := by
      intro t k
      refine pre0 t ?_
      show Steps p.tables e below (s₁.setTop (mkF m 0 #[.val (.ref a1), .val (.int (4 : Int32)), .unset, .unset, .unset, .unset] [])) _
      refine XS.iconst X0.here hx rfl (hb hby d3_0) ?_
      refine XS.istoreN X0.here hx rfl (hb hby d3_1) rfl (l' := #[.val (.ref a1), .val (.int (4 : Int32)), .val (.int (1 : Int32)), .unset, .unset, .unset]) rfl ?_
      refine XS.iloadN X0.here hx rfl (hb hby d3_2) rfl ?_
      refine XS.istoreN X0.here hx rfl (hb hby d3_3) rfl (l' := #[.val (.ref a1), .val (.int (4 : Int32)), .val (.int (1 : Int32)), .val (.int (4 : Int32)), .unset, .unset]) rfl ?_
      show Steps p.tables e below (s₁.setTop (mkF m 4 #[.val (.ref a1), .val (.int (4 : Int32)), .val (.int (1 : Int32)), .val (.int (4 : Int32)), .unset, .unset] [])) _
      refine XS.aloadN X0.here hx rfl (hb hby d3_4) rfl rfl ?_
      refine XS.iloadN X0.here hx rfl (hb hby d3_5) rfl ?_
      show Steps p.tables e below (s₁.setTop (mkF m 6 #[.val (.ref a1), .val (.int (4 : Int32)), .val (.int (1 : Int32)), .val (.int (4 : Int32)), .unset, .unset] [(.int (4 : Int32)), (.ref a1)])) _
      exact k
    obtain ⟨cl492, Ar492, qc492, S492, M492, Ha492, Ga492⟩ := id V1
    have hin492 : ¬ ((4 : Int32) < 0 ∨ cl492.slots.size ≤ ((4 : Int32)).toNatClampNeg) := inb_of S492 ⟨by decide, by decide⟩
    have hat492 : cl492.slots[((4 : Int32)).toNatClampNeg]? = some (.int q4) := Ha492.at hin492 rfl
    have K493 : ∀ t, Steps p.tables e below (s₁.setTop (mkF m 7 #[.val (.ref a1), .val (.int (4 : Int32)), .val (.int (1 : Int32)), .val (.int (4 : Int32)), .unset, .unset] [(.int q4)])) t → Steps p.tables e below G t := fun t k => K491 t (X0.iaload hx (j := (4 : Int32)) (v := (.int q4)) (by rw [e0]; exact Ar492.1) (State.isArrayOf_alike hZ.alike Ar492.2.1) Ar492.2.2 hin492 hat492 (g := (mkF m 6 #[.val (.ref a1), .val (.int (4 : Int32)), .val (.int (1 : Int32)), .val (.int (4 : Int32)), .unset, .unset] [(.int (4 : Int32)), (.ref a1)])) rfl rfl (hb hby d3_6) _ k)
    by_cases hc494 : q4 < (0 : Int32)
    · have K495 : ∀ t, Steps p.tables e below (s₁.setTop (mkF m 21 #[.val (.ref a1), .val (.int (4 : Int32)), .val (.int (1 : Int32)), .val (.int (4 : Int32)), .unset, .unset] [(.int (1 : Int32))])) t → Steps p.tables e below G t := by
        intro t k
        refine K493 t ?_
        show Steps p.tables e below (s₁.setTop (mkF m 7 #[.val (.ref a1), .val (.int (4 : Int32)), .val (.int (1 : Int32)), .val (.int (4 : Int32)), .unset, .unset] [(.int q4)])) _
        refine XS.ifYes X0.here hx rfl (pc0 := 7) (pc' := 20) rfl (hb hby d3_7) rfl ((if0 _ _).trans (tlt hc494).1) (by decide) (by decide) ?_
        refine XS.iloadN X0.here hx rfl (hb hby d3_20) rfl ?_
        show Steps p.tables e below (s₁.setTop (mkF m 21 #[.val (.ref a1), .val (.int (4 : Int32)), .val (.int (1 : Int32)), .val (.int (4 : Int32)), .unset, .unset] [(.int (1 : Int32))])) _
        exact k
      obtain ⟨T496, h496, kn496, X496, e496, E496, A496, st496⟩ := newP X0 hx hZ (hw _ (List.mem_of_getElem? (i := 8) rfl)) e0 (g := (mkF m 21 #[.val (.ref a1), .val (.int (4 : Int32)), .val (.int (1 : Int32)), .val (.int (4 : Int32)), .unset, .unset] [(.int (1 : Int32))])) rfl (hb hby d3_21) rfl (by decide) (cap := 1) (by decide) (by decide) (by decide) (by decide)
      obtain ⟨b496, g496⟩ : ∃ z, z = h0.size := ⟨_, rfl⟩
      rw [← g496] at A496 st496
      have ne_a1_b496 : a1 ≠ b496 := Nat.ne_of_lt (Nat.lt_of_lt_of_le V1.lt (Nat.le_of_eq g496.symm))
      have g_b496 : n0 ≤ b496 := Nat.le_trans Z0 (Nat.le_of_eq g496.symm)
      have sz_b496 : h0.size ≤ b496 := Nat.le_trans KP0.1 (Nat.le_of_eq g496.symm)
      have f497 := V1.ext E496
      have Z498 : n0 ≤ h496.size := Nat.le_trans Z0 E496.1
      have KP499 : Keep h0 h496 [] := KP0.ext E496
      have K500 : ∀ t, Steps p.tables e below (T496.setTop (mkF m 23 #[.val (.ref a1), .val (.int (4 : Int32)), .val (.int (1 : Int32)), .val (.int (4 : Int32)), .unset, .unset] [(.ref b496)])) t → Steps p.tables e below G t := fun t k => K495 t (st496 t k)
      have V496 : Arv Z h496 b496 kn496 .int (1 : Int32) [(.int (0 : Int32))] (.int (0 : Int32)) := (Arv.new A496 (by decide)).pad (pad_rep [] (.int (0 : Int32)) 1)
      have K501 : ∀ t, Steps p.tables e below (T496.setTop (mkF m 42 #[.val (.ref a1), .val (.int (4 : Int32)), .val (.int (1 : Int32)), .val (.ref b496), .val (.int (4 : Int32)), .val (.int (0 : Int32))] [(.int (4 : Int32)), (.int (0 : Int32)), (.ref b496)])) t → Steps p.tables e below G t := by
        intro t k
        refine K500 t ?_
        show Steps p.tables e below (T496.setTop (mkF m 23 #[.val (.ref a1), .val (.int (4 : Int32)), .val (.int (1 : Int32)), .val (.int (4 : Int32)), .unset, .unset] [(.ref b496)])) _
        refine XS.astoreN X496.here hx rfl (hb hby d3_23) rfl rfl (l' := #[.val (.ref a1), .val (.int (4 : Int32)), .val (.int (1 : Int32)), .val (.ref b496), .unset, .unset]) rfl ?_
        refine XS.iloadN X496.here hx rfl (hb hby d3_24) rfl ?_
        refine XS.istore X496.here hx rfl (hb hby d3_25) rfl (l' := #[.val (.ref a1), .val (.int (4 : Int32)), .val (.int (1 : Int32)), .val (.ref b496), .val (.int (4 : Int32)), .unset]) rfl ?_
        refine XS.iloadN X496.here hx rfl (hb hby d3_27) rfl ?_
        show Steps p.tables e below (T496.setTop (mkF m 28 #[.val (.ref a1), .val (.int (4 : Int32)), .val (.int (1 : Int32)), .val (.ref b496), .val (.int (4 : Int32)), .unset] [(.int (1 : Int32))])) _
        refine XS.iconst X496.here hx rfl (hb hby d3_28) ?_
        refine XS.isub X496.here hx rfl (hb hby d3_29) rfl ?_
        refine XS.istore X496.here hx rfl (hb hby d3_30) rfl (l' := #[.val (.ref a1), .val (.int (4 : Int32)), .val (.int (1 : Int32)), .val (.ref b496), .val (.int (4 : Int32)), .val (.int (0 : Int32))]) rfl ?_
        refine XS.iload X496.here hx rfl (hb hby d3_32) rfl ?_
        show Steps p.tables e below (T496.setTop (mkF m 34 #[.val (.ref a1), .val (.int (4 : Int32)), .val (.int (1 : Int32)), .val (.ref b496), .val (.int (4 : Int32)), .val (.int (0 : Int32))] [(.int (0 : Int32))])) _
        refine XS.ifNo X496.here hx rfl (hb hby d3_34) rfl ((if0 _ _).trans (flt (by decide)).1) ?_
        refine XS.aloadN X496.here hx rfl (hb hby d3_37) rfl rfl ?_
        refine XS.iload X496.here hx rfl (hb hby d3_38) rfl ?_
        refine XS.iload X496.here hx rfl (hb hby d3_40) rfl ?_
        show Steps p.tables e below (T496.setTop (mkF m 42 #[.val (.ref a1), .val (.int (4 : Int32)), .val (.int (1 : Int32)), .val (.ref b496), .val (.int (4 : Int32)), .val (.int (0 : Int32))] [(.int (4 : Int32)), (.int (0 : Int32)), (.ref b496)])) _
        exact k
      obtain ⟨cl502, Ar502, qc502, S502, M502, Ha502, Ga502⟩ := id V496
      have hin502 : ¬ ((0 : Int32) < 0 ∨ cl502.slots.size ≤ ((0 : Int32)).toNatClampNeg) := inb_of S502 ⟨by decide, by decide⟩
      obtain ⟨T502, h502, X502, e502, W502, st502⟩ := stI X496 hx hZ e496 Ar502 (j := (0 : Int32)) hin502 (g := (mkF m 42 #[.val (.ref a1), .val (.int (4 : Int32)), .val (.int (1 : Int32)), .val (.ref b496), .val (.int (4 : Int32)), .val (.int (0 : Int32))] [(.int (4 : Int32)), (.int (0 : Int32)), (.ref b496)])) rfl rfl (hb hby d3_42)
      have V502 : Arv Z h502 b496 kn496 .int (1 : Int32) [(.int (4 : Int32))] (.int (0 : Int32)) := Arv.set Ar502 qc502 S502 M502 Ha502 Ga502 rfl W502 0 rfl (Nat.le_of_ble_eq_true rfl)
      have K503 : ∀ t, Steps p.tables e below (T502.setTop (mkF m 43 #[.val (.ref a1), .val (.int (4 : Int32)), .val (.int (1 : Int32)), .val (.ref b496), .val (.int (4 : Int32)), .val (.int (0 : Int32))] [])) t → Steps p.tables e below G t := fun t k => K501 t (st502 t k)
      have f504 := f497.other W502 ne_a1_b496
      have Z505 : n0 ≤ h502.size := Nat.le_trans Z498 (Keep.of_wr W502).1
      have KP506 : Keep h0 h502 [] := KP499.wr W502 (Or.inr sz_b496)
      have N507 := Fr.snoc X502 N0 g_b496
      have K508 : ∀ t, Steps p.tables e below (T502.setTop (mkF m 46 #[.val (.ref a1), .val (.int (4 : Int32)), .val (.int (1 : Int32)), .val (.ref b496), .val (.int (4 : Int32)), .val (.int (0 : Int32))] [(.int (4 : Int32)), (.ref a1)])) t → Steps p.tables e below G t := by
        intro t k
        refine K503 t ?_
        show Steps p.tables e below (T502.setTop (mkF m 43 #[.val (.ref a1), .val (.int (4 : Int32)), .val (.int (1 : Int32)), .val (.ref b496), .val (.int (4 : Int32)), .val (.int (0 : Int32))] [])) _
        refine XS.aloadN X502.here hx rfl (hb hby d3_43) rfl rfl ?_
        refine XS.iload X502.here hx rfl (hb hby d3_44) rfl ?_
        show Steps p.tables e below (T502.setTop (mkF m 46 #[.val (.ref a1), .val (.int (4 : Int32)), .val (.int (1 : Int32)), .val (.ref b496), .val (.int (4 : Int32)), .val (.int (0 : Int32))] [(.int (4 : Int32)), (.ref a1)])) _
        exact k
      obtain ⟨cl509, Ar509, qc509, S509, M509, Ha509, Ga509⟩ := id f504
      have hin509 : ¬ ((4 : Int32) < 0 ∨ cl509.slots.size ≤ ((4 : Int32)).toNatClampNeg) := inb_of S509 ⟨by decide, by decide⟩
      have hat509 : cl509.slots[((4 : Int32)).toNatClampNeg]? = some (.int q4) := Ha509.at hin509 rfl
      have K510 : ∀ t, Steps p.tables e below (T502.setTop (mkF m 47 #[.val (.ref a1), .val (.int (4 : Int32)), .val (.int (1 : Int32)), .val (.ref b496), .val (.int (4 : Int32)), .val (.int (0 : Int32))] [(.int q4)])) t → Steps p.tables e below G t := fun t k => K508 t (X502.iaload hx (j := (4 : Int32)) (v := (.int q4)) (by rw [e502]; exact Ar509.1) (State.isArrayOf_alike hZ.alike Ar509.2.1) Ar509.2.2 hin509 hat509 (g := (mkF m 46 #[.val (.ref a1), .val (.int (4 : Int32)), .val (.int (1 : Int32)), .val (.ref b496), .val (.int (4 : Int32)), .val (.int (0 : Int32))] [(.int (4 : Int32)), (.ref a1)])) rfl rfl (hb hby d3_46) _ k)
      obtain ⟨fs, hr, hrun, hended, hW, hsame⟩ := X502.leave (v := some (.ref b496)) (fun h => by rw [Bd.returns] at h; cases h)
      have KF := K510
      rw [hG] at KF
      refine ⟨_, _, KF _ ?_, hrun, hended, _, _, rfl, ?_, ⟨_, rfl⟩, hW, hsame.mono (by decide) (by decide)⟩
      · show Steps p.tables e below (T502.setTop (mkF m 47 #[.val (.ref a1), .val (.int (4 : Int32)), .val (.int (1 : Int32)), .val (.ref b496), .val (.int (4 : Int32)), .val (.int (0 : Int32))] [(.int q4)])) _
        refine XS.istore X502.here hx rfl (hb hby d3_47) rfl (l' := #[.val (.ref a1), .val (.int (4 : Int32)), .val (.int (1 : Int32)), .val (.ref b496), .val (.int q4), .val (.int (0 : Int32))]) rfl ?_
        refine XS.iinc X502.here hx rfl (hb hby d3_49) rfl (l' := #[.val (.ref a1), .val (.int (4 : Int32)), .val (.int (1 : Int32)), .val (.ref b496), .val (.int q4), .val (.int (-1 : Int32))]) rfl ?_
        refine XS.goto X502.here hx rfl (pc0 := 52) (pc' := 32) rfl (hb hby d3_52) (by decide) (by decide) ?_
        refine XS.iload X502.here hx rfl (hb hby d3_32) rfl ?_
        show Steps p.tables e below (T502.setTop (mkF m 34 #[.val (.ref a1), .val (.int (4 : Int32)), .val (.int (1 : Int32)), .val (.ref b496), .val (.int q4), .val (.int (-1 : Int32))] [(.int (-1 : Int32))])) _
        refine XS.ifYes X502.here hx rfl (pc0 := 34) (pc' := 55) rfl (hb hby d3_34) rfl ((if0 _ _).trans (tlt (by decide)).1) (by decide) (by decide) ?_
        refine XS.aloadN X502.here hx rfl (hb hby d3_55) rfl rfl ?_
        show Steps p.tables e below (T502.setTop (mkF m 56 #[.val (.ref a1), .val (.int (4 : Int32)), .val (.int (1 : Int32)), .val (.ref b496), .val (.int q4), .val (.int (-1 : Int32))] [(.ref b496)])) _
        exact own_retA X502 hx Bd.returns rfl rfl rfl (hb hby d3_56) hr
      · show Q3 Z (4 : Int32) [(.int q0), (.int q1), (.int q2), (.int q3), (.int q4)] h0 n0 _ T502.heap _
        rw [e502]
        exact ⟨_, _, _, _, rfl, N507, KP506, sz_b496, V502, ⟨by decide, by decide⟩, ⟨by decide, by decide⟩, rfl, Or.inr ⟨4, q4, 0, by decide, rfl, ⟨by decide, by decide⟩, rfl, Or.inl ⟨rfl, hc494⟩⟩, Or.inl (by decide), Or.inl (by decide), Or.inl (by decide), Or.inl (by decide)⟩
    · have K511 : ∀ t, Steps p.tables e below (s₁.setTop (mkF m 15 #[.val (.ref a1), .val (.int (4 : Int32)), .val (.int (2 : Int32)), .val (.int (4 : Int32)), .unset, .unset] [(.int (4 : Int32)), (.ref a1)])) t → Steps p.tables e below G t := by
        intro t k
        refine K493 t ?_
        show Steps p.tables e below (s₁.setTop (mkF m 7 #[.val (.ref a1), .val (.int (4 : Int32)), .val (.int (1 : Int32)), .val (.int (4 : Int32)), .unset, .unset] [(.int q4)])) _
        refine XS.ifNo X0.here hx rfl (hb hby d3_7) rfl ((if0 _ _).trans (flt hc494).1) ?_
        refine XS.iinc X0.here hx rfl (hb hby d3_10) rfl (l' := #[.val (.ref a1), .val (.int (4 : Int32)), .val (.int (2 : Int32)), .val (.int (4 : Int32)), .unset, .unset]) rfl ?_
        refine XS.aloadN X0.here hx rfl (hb hby d3_13) rfl rfl ?_
        refine XS.iloadN X0.here hx rfl (hb hby d3_14) rfl ?_
        show Steps p.tables e below (s₁.setTop (mkF m 15 #[.val (.ref a1), .val (.int (4 : Int32)), .val (.int (2 : Int32)), .val (.int (4 : Int32)), .unset, .unset] [(.int (4 : Int32)), (.ref a1)])) _
        exact k
      obtain ⟨cl512, Ar512, qc512, S512, M512, Ha512, Ga512⟩ := id V1
      have hin512 : ¬ ((4 : Int32) < 0 ∨ cl512.slots.size ≤ ((4 : Int32)).toNatClampNeg) := inb_of S512 ⟨by decide, by decide⟩
      have hat512 : cl512.slots[((4 : Int32)).toNatClampNeg]? = some (.int q4) := Ha512.at hin512 rfl
      have K513 : ∀ t, Steps p.tables e below (s₁.setTop (mkF m 16 #[.val (.ref a1), .val (.int (4 : Int32)), .val (.int (2 : Int32)), .val (.int (4 : Int32)), .unset, .unset] [(.int q4)])) t → Steps p.tables e below G t := fun t k => K511 t (X0.iaload hx (j := (4 : Int32)) (v := (.int q4)) (by rw [e0]; exact Ar512.1) (State.isArrayOf_alike hZ.alike Ar512.2.1) Ar512.2.2 hin512 hat512 (g := (mkF m 15 #[.val (.ref a1), .val (.int (4 : Int32)), .val (.int (2 : Int32)), .val (.int (4 : Int32)), .unset, .unset] [(.int (4 : Int32)), (.ref a1)])) rfl rfl (hb hby d3_15) _ k)
      have K514 : ∀ t, Steps p.tables e below (s₁.setTop (mkF m 4 #[.val (.ref a1), .val (.int (4 : Int32)), .val (.int (2 : Int32)), .val (.int q4), .unset, .unset] [])) t → Steps p.tables e below G t := by
        intro t k
        refine K513 t ?_
        show Steps p.tables e below (s₁.setTop (mkF m 16 #[.val (.ref a1), .val (.int (4 : Int32)), .val (.int (2 : Int32)), .val (.int (4 : Int32)), .unset, .unset] [(.int q4)])) _
        refine XS.istoreN X0.here hx rfl (hb hby d3_16) rfl (l' := #[.val (.ref a1), .val (.int (4 : Int32)), .val (.int (2 : Int32)), .val (.int q4), .unset, .unset]) rfl ?_
        refine XS.goto X0.here hx rfl (pc0 := 17) (pc' := 4) rfl (hb hby d3_17) (by decide) (by decide) ?_
        show Steps p.tables e below (s₁.setTop (mkF m 4 #[.val (.ref a1), .val (.int (4 : Int32)), .val (.int (2 : Int32)), .val (.int q4), .unset, .unset] [])) _
        exact k
      rcases own_lt4 hc494 hq4 with rfl | rfl | rfl | rfl
      · have K515 : ∀ t, Steps p.tables e below (s₁.setTop (mkF m 6 #[.val (.ref a1), .val (.int (4 : Int32)), .val (.int (2 : Int32)), .val (.int (0 : Int32)), .unset, .unset] [(.int (0 : Int32)), (.ref a1)])) t → Steps p.tables e below G t := by
          intro t k
          refine K514 t ?_
          show Steps p.tables e below (s₁.setTop (mkF m 4 #[.val (.ref a1), .val (.int (4 : Int32)), .val (.int (2 : Int32)), .val (.int (0 : Int32)), .unset, .unset] [])) _
          refine XS.aloadN X0.here hx rfl (hb hby d3_4) rfl rfl ?_
          refine XS.iloadN X0.here hx rfl (hb hby d3_5) rfl ?_
          show Steps p.tables e below (s₁.setTop (mkF m 6 #[.val (.ref a1), .val (.int (4 : Int32)), .val (.int (2 : Int32)), .val (.int (0 : Int32)), .unset, .unset] [(.int (0 : Int32)), (.ref a1)])) _
          exact k
        obtain ⟨cl516, Ar516, qc516, S516, M516, Ha516, Ga516⟩ := id V1
        have hin516 : ¬ ((0 : Int32) < 0 ∨ cl516.slots.size ≤ ((0 : Int32)).toNatClampNeg) := inb_of S516 ⟨by decide, by decide⟩
        have hat516 : cl516.slots[((0 : Int32)).toNatClampNeg]? = some (.int q0) := Ha516.at hin516 rfl
        have K517 : ∀ t, Steps p.tables e below (s₁.setTop (mkF m 7 #[.val (.ref a1), .val (.int (4 : Int32)), .val (.int (2 : Int32)), .val (.int (0 : Int32)), .unset, .unset] [(.int q0)])) t → Steps p.tables e below G t := fun t k => K515 t (X0.iaload hx (j := (0 : Int32)) (v := (.int q0)) (by rw [e0]; exact Ar516.1) (State.isArrayOf_alike hZ.alike Ar516.2.1) Ar516.2.2 hin516 hat516 (g := (mkF m 6 #[.val (.ref a1), .val (.int (4 : Int32)), .val (.int (2 : Int32)), .val (.int (0 : Int32)), .unset, .unset] [(.int (0 : Int32)), (.ref a1)])) rfl rfl (hb hby d3_6) _ k)
        have K518 : ∀ t, Steps p.tables e below (s₁.setTop (mkF m 21 #[.val (.ref a1), .val (.int (4 : Int32)), .val (.int (2 : Int32)), .val (.int (0 : Int32)), .unset, .unset] [(.int (2 : Int32))])) t → Steps p.tables e below G t := by
          intro t k
          refine K517 t ?_
          show Steps p.tables e below (s₁.setTop (mkF m 7 #[.val (.ref a1), .val (.int (4 : Int32)), .val (.int (2 : Int32)), .val (.int (0 : Int32)), .unset, .unset] [(.int q0)])) _
          refine XS.ifYes X0.here hx rfl (pc0 := 7) (pc' := 20) rfl (hb hby d3_7) rfl ((if0 _ _).trans (tlt hq0).1) (by decide) (by decide) ?_
          refine XS.iloadN X0.here hx rfl (hb hby d3_20) rfl ?_
          show Steps p.tables e below (s₁.setTop (mkF m 21 #[.val (.ref a1), .val (.int (4 : Int32)), .val (.int (2 : Int32)), .val (.int (0 : Int32)), .unset, .unset] [(.int (2 : Int32))])) _
          exact k
        obtain ⟨T519, h519, kn519, X519, e519, E519, A519, st519⟩ := newP X0 hx hZ (hw _ (List.mem_of_getElem? (i := 8) rfl)) e0 (g := (mkF m 21 #[.val (.ref a1), .val (.int (4 : Int32)), .val (.int (2 : Int32)), .val (.int (0 : Int32)), .unset, .unset] [(.int (2 : Int32))])) rfl (hb hby d3_21) rfl (by decide) (cap := 2) (by decide) (by decide) (by decide) (by decide)
        obtain ⟨b519, g519⟩ : ∃ z, z = h0.size := ⟨_, rfl⟩
        rw [← g519] at A519 st519
        have ne_a1_b519 : a1 ≠ b519 := Nat.ne_of_lt (Nat.lt_of_lt_of_le V1.lt (Nat.le_of_eq g519.symm))
        have g_b519 : n0 ≤ b519 := Nat.le_trans Z0 (Nat.le_of_eq g519.symm)
        have sz_b519 : h0.size ≤ b519 := Nat.le_trans KP0.1 (Nat.le_of_eq g519.symm)
        have f520 := V1.ext E519
        have Z521 : n0 ≤ h519.size := Nat.le_trans Z0 E519.1
        have KP522 : Keep h0 h519 [] := KP0.ext E519
        have K523 : ∀ t, Steps p.tables e below (T519.setTop (mkF m 23 #[.val (.ref a1), .val (.int (4 : Int32)), .val (.int (2 : Int32)), .val (.int (0 : Int32)), .unset, .unset] [(.ref b519)])) t → Steps p.tables e below G t := fun t k => K518 t (st519 t k)
        have V519 : Arv Z h519 b519 kn519 .int (2 : Int32) [(.int (0 : Int32)), (.int (0 : Int32))] (.int (0 : Int32)) := (Arv.new A519 (by decide)).pad (pad_rep [] (.int (0 : Int32)) 2)
        have K524 : ∀ t, Steps p.tables e below (T519.setTop (mkF m 42 #[.val (.ref a1), .val (.int (4 : Int32)), .val (.int (2 : Int32)), .val (.ref b519), .val (.int (4 : Int32)), .val (.int (1 : Int32))] [(.int (4 : Int32)), (.int (1 : Int32)), (.ref b519)])) t → Steps p.tables e below G t := by
          intro t k
          refine K523 t ?_
          show Steps p.tables e below (T519.setTop (mkF m 23 #[.val (.ref a1), .val (.int (4 : Int32)), .val (.int (2 : Int32)), .val (.int (0 : Int32)), .unset, .unset] [(.ref b519)])) _
          refine XS.astoreN X519.here hx rfl (hb hby d3_23) rfl rfl (l' := #[.val (.ref a1), .val (.int (4 : Int32)), .val (.int (2 : Int32)), .val (.ref b519), .unset, .unset]) rfl ?_
          refine XS.iloadN X519.here hx rfl (hb hby d3_24) rfl ?_
          refine XS.istore X519.here hx rfl (hb hby d3_25) rfl (l' := #[.val (.ref a1), .val (.int (4 : Int32)), .val (.int (2 : Int32)), .val (.ref b519), .val (.int (4 : Int32)), .unset]) rfl ?_
          refine XS.iloadN X519.here hx rfl (hb hby d3_27) rfl ?_
          show Steps p.tables e below (T519.setTop (mkF m 28 #[.val (.ref a1), .val (.int (4 : Int32)), .val (.int (2 : Int32)), .val (.ref b519), .val (.int (4 : Int32)), .unset] [(.int (2 : Int32))])) _
          refine XS.iconst X519.here hx rfl (hb hby d3_28) ?_
          refine XS.isub X519.here hx rfl (hb hby d3_29) rfl ?_
          refine XS.istore X519.here hx rfl (hb hby d3_30) rfl (l' := #[.val (.ref a1), .val (.int (4 : Int32)), .val (.int (2 : Int32)), .val (.ref b519), .val (.int (4 : Int32)), .val (.int (1 : Int32))]) rfl ?_
          refine XS.iload X519.here hx rfl (hb hby d3_32) rfl ?_
          show Steps p.tables e below (T519.setTop (mkF m 34 #[.val (.ref a1), .val (.int (4 : Int32)), .val (.int (2 : Int32)), .val (.ref b519), .val (.int (4 : Int32)), .val (.int (1 : Int32))] [(.int (1 : Int32))])) _
          refine XS.ifNo X519.here hx rfl (hb hby d3_34) rfl ((if0 _ _).trans (flt (by decide)).1) ?_
          refine XS.aloadN X519.here hx rfl (hb hby d3_37) rfl rfl ?_
          refine XS.iload X519.here hx rfl (hb hby d3_38) rfl ?_
          refine XS.iload X519.here hx rfl (hb hby d3_40) rfl ?_
          show Steps p.tables e below (T519.setTop (mkF m 42 #[.val (.ref a1), .val (.int (4 : Int32)), .val (.int (2 : Int32)), .val (.ref b519), .val (.int (4 : Int32)), .val (.int (1 : Int32))] [(.int (4 : Int32)), (.int (1 : Int32)), (.ref b519)])) _
          exact k
        obtain ⟨cl525, Ar525, qc525, S525, M525, Ha525, Ga525⟩ := id V519
        have hin525 : ¬ ((1 : Int32) < 0 ∨ cl525.slots.size ≤ ((1 : Int32)).toNatClampNeg) := inb_of S525 ⟨by decide, by decide⟩
        obtain ⟨T525, h525, X525, e525, W525, st525⟩ := stI X519 hx hZ e519 Ar525 (j := (1 : Int32)) hin525 (g := (mkF m 42 #[.val (.ref a1), .val (.int (4 : Int32)), .val (.int (2 : Int32)), .val (.ref b519), .val (.int (4 : Int32)), .val (.int (1 : Int32))] [(.int (4 : Int32)), (.int (1 : Int32)), (.ref b519)])) rfl rfl (hb hby d3_42)
        have V525 : Arv Z h525 b519 kn519 .int (2 : Int32) [(.int (0 : Int32)), (.int (4 : Int32))] (.int (0 : Int32)) := Arv.set Ar525 qc525 S525 M525 Ha525 Ga525 rfl W525 1 rfl (Nat.le_of_ble_eq_true rfl)
        have K526 : ∀ t, Steps p.tables e below (T525.setTop (mkF m 43 #[.val (.ref a1), .val (.int (4 : Int32)), .val (.int (2 : Int32)), .val (.ref b519), .val (.int (4 : Int32)), .val (.int (1 : Int32))] [])) t → Steps p.tables e below G t := fun t k => K524 t (st525 t k)
        have f527 := f520.other W525 ne_a1_b519
        have Z528 : n0 ≤ h525.size := Nat.le_trans Z521 (Keep.of_wr W525).1
        have KP529 : Keep h0 h525 [] := KP522.wr W525 (Or.inr sz_b519)
        have N530 := Fr.snoc X525 N0 g_b519
        have K531 : ∀ t, Steps p.tables e below (T525.setTop (mkF m 46 #[.val (.ref a1), .val (.int (4 : Int32)), .val (.int (2 : Int32)), .val (.ref b519), .val (.int (4 : Int32)), .val (.int (1 : Int32))] [(.int (4 : Int32)), (.ref a1)])) t → Steps p.tables e below G t := by
          intro t k
          refine K526 t ?_
          show Steps p.tables e below (T525.setTop (mkF m 43 #[.val (.ref a1), .val (.int (4 : Int32)), .val (.int (2 : Int32)), .val (.ref b519), .val (.int (4 : Int32)), .val (.int (1 : Int32))] [])) _
          refine XS.aloadN X525.here hx rfl (hb hby d3_43) rfl rfl ?_
          refine XS.iload X525.here hx rfl (hb hby d3_44) rfl ?_
          show Steps p.tables e below (T525.setTop (mkF m 46 #[.val (.ref a1), .val (.int (4 : Int32)), .val (.int (2 : Int32)), .val (.ref b519), .val (.int (4 : Int32)), .val (.int (1 : Int32))] [(.int (4 : Int32)), (.ref a1)])) _
          exact k
        obtain ⟨cl532, Ar532, qc532, S532, M532, Ha532, Ga532⟩ := id f527
        have hin532 : ¬ ((4 : Int32) < 0 ∨ cl532.slots.size ≤ ((4 : Int32)).toNatClampNeg) := inb_of S532 ⟨by decide, by decide⟩
        have hat532 : cl532.slots[((4 : Int32)).toNatClampNeg]? = some (.int (0 : Int32)) := Ha532.at hin532 rfl
        have K533 : ∀ t, Steps p.tables e below (T525.setTop (mkF m 47 #[.val (.ref a1), .val (.int (4 : Int32)), .val (.int (2 : Int32)), .val (.ref b519), .val (.int (4 : Int32)), .val (.int (1 : Int32))] [(.int (0 : Int32))])) t → Steps p.tables e below G t := fun t k => K531 t (X525.iaload hx (j := (4 : Int32)) (v := (.int (0 : Int32))) (by rw [e525]; exact Ar532.1) (State.isArrayOf_alike hZ.alike Ar532.2.1) Ar532.2.2 hin532 hat532 (g := (mkF m 46 #[.val (.ref a1), .val (.int (4 : Int32)), .val (.int (2 : Int32)), .val (.ref b519), .val (.int (4 : Int32)), .val (.int (1 : Int32))] [(.int (4 : Int32)), (.ref a1)])) rfl rfl (hb hby d3_46) _ k)
        have K534 : ∀ t, Steps p.tables e below (T525.setTop (mkF m 42 #[.val (.ref a1), .val (.int (4 : Int32)), .val (.int (2 : Int32)), .val (.ref b519), .val (.int (0 : Int32)), .val (.int (0 : Int32))] [(.int (0 : Int32)), (.int (0 : Int32)), (.ref b519)])) t → Steps p.tables e below G t := by
          intro t k
          refine K533 t ?_
          show Steps p.tables e below (T525.setTop (mkF m 47 #[.val (.ref a1), .val (.int (4 : Int32)), .val (.int (2 : Int32)), .val (.ref b519), .val (.int (4 : Int32)), .val (.int (1 : Int32))] [(.int (0 : Int32))])) _
          refine XS.istore X525.here hx rfl (hb hby d3_47) rfl (l' := #[.val (.ref a1), .val (.int (4 : Int32)), .val (.int (2 : Int32)), .val (.ref b519), .val (.int (0 : Int32)), .val (.int (1 : Int32))]) rfl ?_
          refine XS.iinc X525.here hx rfl (hb hby d3_49) rfl (l' := #[.val (.ref a1), .val (.int (4 : Int32)), .val (.int (2 : Int32)), .val (.ref b519), .val (.int (0 : Int32)), .val (.int (0 : Int32))]) rfl ?_
          refine XS.goto X525.here hx rfl (pc0 := 52) (pc' := 32) rfl (hb hby d3_52) (by decide) (by decide) ?_
          refine XS.iload X525.here hx rfl (hb hby d3_32) rfl ?_
          show Steps p.tables e below (T525.setTop (mkF m 34 #[.val (.ref a1), .val (.int (4 : Int32)), .val (.int (2 : Int32)), .val (.ref b519), .val (.int (0 : Int32)), .val (.int (0 : Int32))] [(.int (0 : Int32))])) _
          refine XS.ifNo X525.here hx rfl (hb hby d3_34) rfl ((if0 _ _).trans (flt (by decide)).1) ?_
          refine XS.aloadN X525.here hx rfl (hb hby d3_37) rfl rfl ?_
          refine XS.iload X525.here hx rfl (hb hby d3_38) rfl ?_
          refine XS.iload X525.here hx rfl (hb hby d3_40) rfl ?_
          show Steps p.tables e below (T525.setTop (mkF m 42 #[.val (.ref a1), .val (.int (4 : Int32)), .val (.int (2 : Int32)), .val (.ref b519), .val (.int (0 : Int32)), .val (.int (0 : Int32))] [(.int (0 : Int32)), (.int (0 : Int32)), (.ref b519)])) _
          exact k
        obtain ⟨cl535, Ar535, qc535, S535, M535, Ha535, Ga535⟩ := id V525
        have hin535 : ¬ ((0 : Int32) < 0 ∨ cl535.slots.size ≤ ((0 : Int32)).toNatClampNeg) := inb_of S535 ⟨by decide, by decide⟩
        obtain ⟨T535, h535, X535, e535, W535, st535⟩ := stI X525 hx hZ e525 Ar535 (j := (0 : Int32)) hin535 (g := (mkF m 42 #[.val (.ref a1), .val (.int (4 : Int32)), .val (.int (2 : Int32)), .val (.ref b519), .val (.int (0 : Int32)), .val (.int (0 : Int32))] [(.int (0 : Int32)), (.int (0 : Int32)), (.ref b519)])) rfl rfl (hb hby d3_42)
        have V535 : Arv Z h535 b519 kn519 .int (2 : Int32) [(.int (0 : Int32)), (.int (4 : Int32))] (.int (0 : Int32)) := Arv.set Ar535 qc535 S535 M535 Ha535 Ga535 rfl W535 0 rfl (Nat.le_of_ble_eq_true rfl)
        have K536 : ∀ t, Steps p.tables e below (T535.setTop (mkF m 43 #[.val (.ref a1), .val (.int (4 : Int32)), .val (.int (2 : Int32)), .val (.ref b519), .val (.int (0 : Int32)), .val (.int (0 : Int32))] [])) t → Steps p.tables e below G t := fun t k => K534 t (st535 t k)
        have f537 := f527.other W535 ne_a1_b519
        have Z538 : n0 ≤ h535.size := Nat.le_trans Z528 (Keep.of_wr W535).1
        have KP539 : Keep h0 h535 [] := KP529.wr W535 (Or.inr sz_b519)
        have N540 := Fr.snoc X535 N530 g_b519
        have K541 : ∀ t, Steps p.tables e below (T535.setTop (mkF m 46 #[.val (.ref a1), .val (.int (4 : Int32)), .val (.int (2 : Int32)), .val (.ref b519), .val (.int (0 : Int32)), .val (.int (0 : Int32))] [(.int (0 : Int32)), (.ref a1)])) t → Steps p.tables e below G t := by
          intro t k
          refine K536 t ?_
          show Steps p.tables e below (T535.setTop (mkF m 43 #[.val (.ref a1), .val (.int (4 : Int32)), .val (.int (2 : Int32)), .val (.ref b519), .val (.int (0 : Int32)), .val (.int (0 : Int32))] [])) _
          refine XS.aloadN X535.here hx rfl (hb hby d3_43) rfl rfl ?_
          refine XS.iload X535.here hx rfl (hb hby d3_44) rfl ?_
          show Steps p.tables e below (T535.setTop (mkF m 46 #[.val (.ref a1), .val (.int (4 : Int32)), .val (.int (2 : Int32)), .val (.ref b519), .val (.int (0 : Int32)), .val (.int (0 : Int32))] [(.int (0 : Int32)), (.ref a1)])) _
          exact k
        obtain ⟨cl542, Ar542, qc542, S542, M542, Ha542, Ga542⟩ := id f537
        have hin542 : ¬ ((0 : Int32) < 0 ∨ cl542.slots.size ≤ ((0 : Int32)).toNatClampNeg) := inb_of S542 ⟨by decide, by decide⟩
        have hat542 : cl542.slots[((0 : Int32)).toNatClampNeg]? = some (.int q0) := Ha542.at hin542 rfl
        have K543 : ∀ t, Steps p.tables e below (T535.setTop (mkF m 47 #[.val (.ref a1), .val (.int (4 : Int32)), .val (.int (2 : Int32)), .val (.ref b519), .val (.int (0 : Int32)), .val (.int (0 : Int32))] [(.int q0)])) t → Steps p.tables e below G t := fun t k => K541 t (X535.iaload hx (j := (0 : Int32)) (v := (.int q0)) (by rw [e535]; exact Ar542.1) (State.isArrayOf_alike hZ.alike Ar542.2.1) Ar542.2.2 hin542 hat542 (g := (mkF m 46 #[.val (.ref a1), .val (.int (4 : Int32)), .val (.int (2 : Int32)), .val (.ref b519), .val (.int (0 : Int32)), .val (.int (0 : Int32))] [(.int (0 : Int32)), (.ref a1)])) rfl rfl (hb hby d3_46) _ k)
        obtain ⟨fs, hr, hrun, hended, hW, hsame⟩ := X535.leave (v := some (.ref b519)) (fun h => by rw [Bd.returns] at h; cases h)
        have KF := K543
        rw [hG] at KF
        refine ⟨_, _, KF _ ?_, hrun, hended, _, _, rfl, ?_, ⟨_, rfl⟩, hW, hsame.mono (by decide) (by decide)⟩
        · show Steps p.tables e below (T535.setTop (mkF m 47 #[.val (.ref a1), .val (.int (4 : Int32)), .val (.int (2 : Int32)), .val (.ref b519), .val (.int (0 : Int32)), .val (.int (0 : Int32))] [(.int q0)])) _
          refine XS.istore X535.here hx rfl (hb hby d3_47) rfl (l' := #[.val (.ref a1), .val (.int (4 : Int32)), .val (.int (2 : Int32)), .val (.ref b519), .val (.int q0), .val (.int (0 : Int32))]) rfl ?_
          refine XS.iinc X535.here hx rfl (hb hby d3_49) rfl (l' := #[.val (.ref a1), .val (.int (4 : Int32)), .val (.int (2 : Int32)), .val (.ref b519), .val (.int q0), .val (.int (-1 : Int32))]) rfl ?_
          refine XS.goto X535.here hx rfl (pc0 := 52) (pc' := 32) rfl (hb hby d3_52) (by decide) (by decide) ?_
          refine XS.iload X535.here hx rfl (hb hby d3_32) rfl ?_
          show Steps p.tables e below (T535.setTop (mkF m 34 #[.val (.ref a1), .val (.int (4 : Int32)), .val (.int (2 : Int32)), .val (.ref b519), .val (.int q0), .val (.int (-1 : Int32))] [(.int (-1 : Int32))])) _
          refine XS.ifYes X535.here hx rfl (pc0 := 34) (pc' := 55) rfl (hb hby d3_34) rfl ((if0 _ _).trans (tlt (by decide)).1) (by decide) (by decide) ?_
          refine XS.aloadN X535.here hx rfl (hb hby d3_55) rfl rfl ?_
          show Steps p.tables e below (T535.setTop (mkF m 56 #[.val (.ref a1), .val (.int (4 : Int32)), .val (.int (2 : Int32)), .val (.ref b519), .val (.int q0), .val (.int (-1 : Int32))] [(.ref b519)])) _
          exact own_retA X535 hx Bd.returns rfl rfl rfl (hb hby d3_56) hr
        · show Q3 Z (4 : Int32) [(.int q0), (.int q1), (.int q2), (.int q3), (.int (0 : Int32))] h0 n0 _ T535.heap _
          rw [e535]
          exact ⟨_, _, _, _, rfl, N540, KP539, sz_b519, V535, ⟨by decide, by decide⟩, ⟨by decide, by decide⟩, rfl, Or.inr ⟨0, q0, 0, by decide, rfl, ⟨by decide, by decide⟩, rfl, Or.inl ⟨rfl, hq0⟩⟩, Or.inr ⟨4, 0, 0, by decide, rfl, ⟨by decide, by decide⟩, rfl, Or.inr ⟨by decide, ⟨by decide, by decide⟩, rfl, rfl⟩⟩, Or.inl (by decide), Or.inl (by decide), Or.inl (by decide)⟩
      · have K544 : ∀ t, Steps p.tables e below (s₁.setTop (mkF m 6 #[.val (.ref a1), .val (.int (4 : Int32)), .val (.int (2 : Int32)), .val (.int (1 : Int32)), .unset, .unset] [(.int (1 : Int32)), (.ref a1)])) t → Steps p.tables e below G t := by
          intro t k
          refine K514 t ?_
          show Steps p.tables e below (s₁.setTop (mkF m 4 #[.val (.ref a1), .val (.int (4 : Int32)), .val (.int (2 : Int32)), .val (.int (1 : Int32)), .unset, .unset] [])) _
          refine XS.aloadN X0.here hx rfl (hb hby d3_4) rfl rfl ?_
          refine XS.iloadN X0.here hx rfl (hb hby d3_5) rfl ?_
          show Steps p.tables e below (s₁.setTop (mkF m 6 #[.val (.ref a1), .val (.int (4 : Int32)), .val (.int (2 : Int32)), .val (.int (1 : Int32)), .unset, .unset] [(.int (1 : Int32)), (.ref a1)])) _
          exact k
        obtain ⟨cl545, Ar545, qc545, S545, M545, Ha545, Ga545⟩ := id V1
        have hin545 : ¬ ((1 : Int32) < 0 ∨ cl545.slots.size ≤ ((1 : Int32)).toNatClampNeg) := inb_of S545 ⟨by decide, by decide⟩
        have hat545 : cl545.slots[((1 : Int32)).toNatClampNeg]? = some (.int q1) := Ha545.at hin545 rfl
        have K546 : ∀ t, Steps p.tables e below (s₁.setTop (mkF m 7 #[.val (.ref a1), .val (.int (4 : Int32)), .val (.int (2 : Int32)), .val (.int (1 : Int32)), .unset, .unset] [(.int q1)])) t → Steps p.tables e below G t := fun t k => K544 t (X0.iaload hx (j := (1 : Int32)) (v := (.int q1)) (by rw [e0]; exact Ar545.1) (State.isArrayOf_alike hZ.alike Ar545.2.1) Ar545.2.2 hin545 hat545 (g := (mkF m 6 #[.val (.ref a1), .val (.int (4 : Int32)), .val (.int (2 : Int32)), .val (.int (1 : Int32)), .unset, .unset] [(.int (1 : Int32)), (.ref a1)])) rfl rfl (hb hby d3_6) _ k)
        by_cases hc547 : q1 < (0 : Int32)
        · have K548 : ∀ t, Steps p.tables e below (s₁.setTop (mkF m 21 #[.val (.ref a1), .val (.int (4 : Int32)), .val (.int (2 : Int32)), .val (.int (1 : Int32)), .unset, .unset] [(.int (2 : Int32))])) t → Steps p.tables e below G t := by
            intro t k
            refine K546 t ?_
            show Steps p.tables e below (s₁.setTop (mkF m 7 #[.val (.ref a1), .val (.int (4 : Int32)), .val (.int (2 : Int32)), .val (.int (1 : Int32)), .unset, .unset] [(.int q1)])) _
            refine XS.ifYes X0.here hx rfl (pc0 := 7) (pc' := 20) rfl (hb hby d3_7) rfl ((if0 _ _).trans (tlt hc547).1) (by decide) (by decide) ?_
            refine XS.iloadN X0.here hx rfl (hb hby d3_20) rfl ?_
            show Steps p.tables e below (s₁.setTop (mkF m 21 #[.val (.ref a1), .val (.int (4 : Int32)), .val (.int (2 : Int32)), .val (.int (1 : Int32)), .unset, .unset] [(.int (2 : Int32))])) _
            exact k
          obtain ⟨T549, h549, kn549, X549, e549, E549, A549, st549⟩ := newP X0 hx hZ (hw _ (List.mem_of_getElem? (i := 8) rfl)) e0 (g := (mkF m 21 #[.val (.ref a1), .val (.int (4 : Int32)), .val (.int (2 : Int32)), .val (.int (1 : Int32)), .unset, .unset] [(.int (2 : Int32))])) rfl (hb hby d3_21) rfl (by decide) (cap := 2) (by decide) (by decide) (by decide) (by decide)
          obtain ⟨b549, g549⟩ : ∃ z, z = h0.size := ⟨_, rfl⟩
          rw [← g549] at A549 st549
          have ne_a1_b549 : a1 ≠ b549 := Nat.ne_of_lt (Nat.lt_of_lt_of_le V1.lt (Nat.le_of_eq g549.symm))
          have g_b549 : n0 ≤ b549 := Nat.le_trans Z0 (Nat.le_of_eq g549.symm)
          have sz_b549 : h0.size ≤ b549 := Nat.le_trans KP0.1 (Nat.le_of_eq g549.symm)
          have f550 := V1.ext E549
          have Z551 : n0 ≤ h549.size := Nat.le_trans Z0 E549.1
          have KP552 : Keep h0 h549 [] := KP0.ext E549
          have K553 : ∀ t, Steps p.tables e below (T549.setTop (mkF m 23 #[.val (.ref a1), .val (.int (4 : Int32)), .val (.int (2 : Int32)), .val (.int (1 : Int32)), .unset, .unset] [(.ref b549)])) t → Steps p.tables e below G t := fun t k => K548 t (st549 t k)
          have V549 : Arv Z h549 b549 kn549 .int (2 : Int32) [(.int (0 : Int32)), (.int (0 : Int32))] (.int (0 : Int32)) := (Arv.new A549 (by decide)).pad (pad_rep [] (.int (0 : Int32)) 2)
          have K554 : ∀ t, Steps p.tables e below (T549.setTop (mkF m 42 #[.val (.ref a1), .val (.int (4 : Int32)), .val (.int (2 : Int32)), .val (.ref b549), .val (.int (4 : Int32)), .val (.int (1 : Int32))] [(.int (4 : Int32)), (.int (1 : Int32)), (.ref b549)])) t → Steps p.tables e below G t := by
            intro t k
            refine K553 t ?_
            show Steps p.tables e below (T549.setTop (mkF m 23 #[.val (.ref a1), .val (.int (4 : Int32)), .val (.int (2 : Int32)), .val (.int (1 : Int32)), .unset, .unset] [(.ref b549)])) _
            refine XS.astoreN X549.here hx rfl (hb hby d3_23) rfl rfl (l' := #[.val (.ref a1), .val (.int (4 : Int32)), .val (.int (2 : Int32)), .val (.ref b549), .unset, .unset]) rfl ?_
            refine XS.iloadN X549.here hx rfl (hb hby d3_24) rfl ?_
            refine XS.istore X549.here hx rfl (hb hby d3_25) rfl (l' := #[.val (.ref a1), .val (.int (4 : Int32)), .val (.int (2 : Int32)), .val (.ref b549), .val (.int (4 : Int32)), .unset]) rfl ?_
            refine XS.iloadN X549.here hx rfl (hb hby d3_27) rfl ?_
            show Steps p.tables e below (T549.setTop (mkF m 28 #[.val (.ref a1), .val (.int (4 : Int32)), .val (.int (2 : Int32)), .val (.ref b549), .val (.int (4 : Int32)), .unset] [(.int (2 : Int32))])) _
            refine XS.iconst X549.here hx rfl (hb hby d3_28) ?_
            refine XS.isub X549.here hx rfl (hb hby d3_29) rfl ?_
            refine XS.istore X549.here hx rfl (hb hby d3_30) rfl (l' := #[.val (.ref a1), .val (.int (4 : Int32)), .val (.int (2 : Int32)), .val (.ref b549), .val (.int (4 : Int32)), .val (.int (1 : Int32))]) rfl ?_
            refine XS.iload X549.here hx rfl (hb hby d3_32) rfl ?_
            show Steps p.tables e below (T549.setTop (mkF m 34 #[.val (.ref a1), .val (.int (4 : Int32)), .val (.int (2 : Int32)), .val (.ref b549), .val (.int (4 : Int32)), .val (.int (1 : Int32))] [(.int (1 : Int32))])) _
            refine XS.ifNo X549.here hx rfl (hb hby d3_34) rfl ((if0 _ _).trans (flt (by decide)).1) ?_
            refine XS.aloadN X549.here hx rfl (hb hby d3_37) rfl rfl ?_
            refine XS.iload X549.here hx rfl (hb hby d3_38) rfl ?_
            refine XS.iload X549.here hx rfl (hb hby d3_40) rfl ?_
            show Steps p.tables e below (T549.setTop (mkF m 42 #[.val (.ref a1), .val (.int (4 : Int32)), .val (.int (2 : Int32)), .val (.ref b549), .val (.int (4 : Int32)), .val (.int (1 : Int32))] [(.int (4 : Int32)), (.int (1 : Int32)), (.ref b549)])) _
            exact k
          obtain ⟨cl555, Ar555, qc555, S555, M555, Ha555, Ga555⟩ := id V549
          have hin555 : ¬ ((1 : Int32) < 0 ∨ cl555.slots.size ≤ ((1 : Int32)).toNatClampNeg) := inb_of S555 ⟨by decide, by decide⟩
          obtain ⟨T555, h555, X555, e555, W555, st555⟩ := stI X549 hx hZ e549 Ar555 (j := (1 : Int32)) hin555 (g := (mkF m 42 #[.val (.ref a1), .val (.int (4 : Int32)), .val (.int (2 : Int32)), .val (.ref b549), .val (.int (4 : Int32)), .val (.int (1 : Int32))] [(.int (4 : Int32)), (.int (1 : Int32)), (.ref b549)])) rfl rfl (hb hby d3_42)
          have V555 : Arv Z h555 b549 kn549 .int (2 : Int32) [(.int (0 : Int32)), (.int (4 : Int32))] (.int (0 : Int32)) := Arv.set Ar555 qc555 S555 M555 Ha555 Ga555 rfl W555 1 rfl (Nat.le_of_ble_eq_true rfl)
          have K556 : ∀ t, Steps p.tables e below (T555.setTop (mkF m 43 #[.val (.ref a1), .val (.int (4 : Int32)), .val (.int (2 : Int32)), .val (.ref b549), .val (.int (4 : Int32)), .val (.int (1 : Int32))] [])) t → Steps p.tables e below G t := fun t k => K554 t (st555 t k)
          have f557 := f550.other W555 ne_a1_b549
          have Z558 : n0 ≤ h555.size := Nat.le_trans Z551 (Keep.of_wr W555).1
          have KP559 : Keep h0 h555 [] := KP552.wr W555 (Or.inr sz_b549)
          have N560 := Fr.snoc X555 N0 g_b549
          have K561 : ∀ t, Steps p.tables e below (T555.setTop (mkF m 46 #[.val (.ref a1), .val (.int (4 : Int32)), .val (.int (2 : Int32)), .val (.ref b549), .val (.int (4 : Int32)), .val (.int (1 : Int32))] [(.int (4 : Int32)), (.ref a1)])) t → Steps p.tables e below G t := by
            intro t k
            refine K556 t ?_
            show Steps p.tables e below (T555.setTop (mkF m 43 #[.val (.ref a1), .val (.int (4 : Int32)), .val (.int (2 : Int32)), .val (.ref b549), .val (.int (4 : Int32)), .val (.int (1 : Int32))] [])) _
            refine XS.aloadN X555.here hx rfl (hb hby d3_43) rfl rfl ?_
            refine XS.iload X555.here hx rfl (hb hby d3_44) rfl ?_
            show Steps p.tables e below (T555.setTop (mkF m 46 #[.val (.ref a1), .val (.int (4 : Int32)), .val (.int (2 : Int32)), .val (.ref b549), .val (.int (4 : Int32)), .val (.int (1 : Int32))] [(.int (4 : Int32)), (.ref a1)])) _
            exact k
          obtain ⟨cl562, Ar562, qc562, S562, M562, Ha562, Ga562⟩ := id f557
          have hin562 : ¬ ((4 : Int32) < 0 ∨ cl562.slots.size ≤ ((4 : Int32)).toNatClampNeg) := inb_of S562 ⟨by decide, by decide⟩
          have hat562 : cl562.slots[((4 : Int32)).toNatClampNeg]? = some (.int (1 : Int32)) := Ha562.at hin562 rfl
          have K563 : ∀ t, Steps p.tables e below (T555.setTop (mkF m 47 #[.val (.ref a1), .val (.int (4 : Int32)), .val (.int (2 : Int32)), .val (.ref b549), .val (.int (4 : Int32)), .val (.int (1 : Int32))] [(.int (1 : Int32))])) t → Steps p.tables e below G t := fun t k => K561 t (X555.iaload hx (j := (4 : Int32)) (v := (.int (1 : Int32))) (by rw [e555]; exact Ar562.1) (State.isArrayOf_alike hZ.alike Ar562.2.1) Ar562.2.2 hin562 hat562 (g := (mkF m 46 #[.val (.ref a1), .val (.int (4 : Int32)), .val (.int (2 : Int32)), .val (.ref b549), .val (.int (4 : Int32)), .val (.int (1 : Int32))] [(.int (4 : Int32)), (.ref a1)])) rfl rfl (hb hby d3_46) _ k)
          have K564 : ∀ t, Steps p.tables e below (T555.setTop (mkF m 42 #[.val (.ref a1), .val (.int (4 : Int32)), .val (.int (2 : Int32)), .val (.ref b549), .val (.int (1 : Int32)), .val (.int (0 : Int32))] [(.int (1 : Int32)), (.int (0 : Int32)), (.ref b549)])) t → Steps p.tables e below G t := by
            intro t k
            refine K563 t ?_
            show Steps p.tables e below (T555.setTop (mkF m 47 #[.val (.ref a1), .val (.int (4 : Int32)), .val (.int (2 : Int32)), .val (.ref b549), .val (.int (4 : Int32)), .val (.int (1 : Int32))] [(.int (1 : Int32))])) _
            refine XS.istore X555.here hx rfl (hb hby d3_47) rfl (l' := #[.val (.ref a1), .val (.int (4 : Int32)), .val (.int (2 : Int32)), .val (.ref b549), .val (.int (1 : Int32)), .val (.int (1 : Int32))]) rfl ?_
            refine XS.iinc X555.here hx rfl (hb hby d3_49) rfl (l' := #[.val (.ref a1), .val (.int (4 : Int32)), .val (.int (2 : Int32)), .val (.ref b549), .val (.int (1 : Int32)), .val (.int (0 : Int32))]) rfl ?_
            refine XS.goto X555.here hx rfl (pc0 := 52) (pc' := 32) rfl (hb hby d3_52) (by decide) (by decide) ?_
            refine XS.iload X555.here hx rfl (hb hby d3_32) rfl ?_
            show Steps p.tables e below (T555.setTop (mkF m 34 #[.val (.ref a1), .val (.int (4 : Int32)), .val (.int (2 : Int32)), .val (.ref b549), .val (.int (1 : Int32)), .val (.int (0 : Int32))] [(.int (0 : Int32))])) _
            refine XS.ifNo X555.here hx rfl (hb hby d3_34) rfl ((if0 _ _).trans (flt (by decide)).1) ?_
            refine XS.aloadN X555.here hx rfl (hb hby d3_37) rfl rfl ?_
            refine XS.iload X555.here hx rfl (hb hby d3_38) rfl ?_
            refine XS.iload X555.here hx rfl (hb hby d3_40) rfl ?_
            show Steps p.tables e below (T555.setTop (mkF m 42 #[.val (.ref a1), .val (.int (4 : Int32)), .val (.int (2 : Int32)), .val (.ref b549), .val (.int (1 : Int32)), .val (.int (0 : Int32))] [(.int (1 : Int32)), (.int (0 : Int32)), (.ref b549)])) _
            exact k
          obtain ⟨cl565, Ar565, qc565, S565, M565, Ha565, Ga565⟩ := id V555
          have hin565 : ¬ ((0 : Int32) < 0 ∨ cl565.slots.size ≤ ((0 : Int32)).toNatClampNeg) := inb_of S565 ⟨by decide, by decide⟩
          obtain ⟨T565, h565, X565, e565, W565, st565⟩ := stI X555 hx hZ e555 Ar565 (j := (0 : Int32)) hin565 (g := (mkF m 42 #[.val (.ref a1), .val (.int (4 : Int32)), .val (.int (2 : Int32)), .val (.ref b549), .val (.int (1 : Int32)), .val (.int (0 : Int32))] [(.int (1 : Int32)), (.int (0 : Int32)), (.ref b549)])) rfl rfl (hb hby d3_42)
          have V565 : Arv Z h565 b549 kn549 .int (2 : Int32) [(.int (1 : Int32)), (.int (4 : Int32))] (.int (0 : Int32)) := Arv.set Ar565 qc565 S565 M565 Ha565 Ga565 rfl W565 0 rfl (Nat.le_of_ble_eq_true rfl)
          have K566 : ∀ t, Steps p.tables e below (T565.setTop (mkF m 43 #[.val (.ref a1), .val (.int (4 : Int32)), .val (.int (2 : Int32)), .val (.ref b549), .val (.int (1 : Int32)), .val (.int (0 : Int32))] [])) t → Steps p.tables e below G t := fun t k => K564 t (st565 t k)
          have f567 := f557.other W565 ne_a1_b549
          have Z568 : n0 ≤ h565.size := Nat.le_trans Z558 (Keep.of_wr W565).1
          have KP569 : Keep h0 h565 [] := KP559.wr W565 (Or.inr sz_b549)
          have N570 := Fr.snoc X565 N560 g_b549
          have K571 : ∀ t, Steps p.tables e below (T565.setTop (mkF m 46 #[.val (.ref a1), .val (.int (4 : Int32)), .val (.int (2 : Int32)), .val (.ref b549), .val (.int (1 : Int32)), .val (.int (0 : Int32))] [(.int (1 : Int32)), (.ref a1)])) t → Steps p.tables e below G t := by
            intro t k
            refine K566 t ?_
            show Steps p.tables e below (T565.setTop (mkF m 43 #[.val (.ref a1), .val (.int (4 : Int32)), .val (.int (2 : Int32)), .val (.ref b549), .val (.int (1 : Int32)), .val (.int (0 : Int32))] [])) _
            refine XS.aloadN X565.here hx rfl (hb hby d3_43) rfl rfl ?_
            refine XS.iload X565.here hx rfl (hb hby d3_44) rfl ?_
            show Steps p.tables e below (T565.setTop (mkF m 46 #[.val (.ref a1), .val (.int (4 : Int32)), .val (.int (2 : Int32)), .val (.ref b549), .val (.int (1 : Int32)), .val (.int (0 : Int32))] [(.int (1 : Int32)), (.ref a1)])) _
            exact k
          obtain ⟨cl572, Ar572, qc572, S572, M572, Ha572, Ga572⟩ := id f567
          have hin572 : ¬ ((1 : Int32) < 0 ∨ cl572.slots.size ≤ ((1 : Int32)).toNatClampNeg) := inb_of S572 ⟨by decide, by decide⟩
          have hat572 : cl572.slots[((1 : Int32)).toNatClampNeg]? = some (.int q1) := Ha572.at hin572 rfl
          have K573 : ∀ t, Steps p.tables e below (T565.setTop (mkF m 47 #[.val (.ref a1), .val (.int (4 : Int32)), .val (.int (2 : Int32)), .val (.ref b549), .val (.int (1 : Int32)), .val (.int (0 : Int32))] [(.int q1)])) t → Steps p.tables e below G t := fun t k => K571 t (X565.iaload hx (j := (1 : Int32)) (v := (.int q1)) (by rw [e565]; exact Ar572.1) (State.isArrayOf_alike hZ.alike Ar572.2.1) Ar572.2.2 hin572 hat572 (g := (mkF m 46 #[.val (.ref a1), .val (.int (4 : Int32)), .val (.int (2 : Int32)), .val (.ref b549), .val (.int (1 : Int32)), .val (.int (0 : Int32))] [(.int (1 : Int32)), (.ref a1)])) rfl rfl (hb hby d3_46) _ k)
          obtain ⟨fs, hr, hrun, hended, hW, hsame⟩ := X565.leave (v := some (.ref b549)) (fun h => by rw [Bd.returns] at h; cases h)
          have KF := K573
          rw [hG] at KF
          refine ⟨_, _, KF _ ?_, hrun, hended, _, _, rfl, ?_, ⟨_, rfl⟩, hW, hsame.mono (by decide) (by decide)⟩
          · show Steps p.tables e below (T565.setTop (mkF m 47 #[.val (.ref a1), .val (.int (4 : Int32)), .val (.int (2 : Int32)), .val (.ref b549), .val (.int (1 : Int32)), .val (.int (0 : Int32))] [(.int q1)])) _
            refine XS.istore X565.here hx rfl (hb hby d3_47) rfl (l' := #[.val (.ref a1), .val (.int (4 : Int32)), .val (.int (2 : Int32)), .val (.ref b549), .val (.int q1), .val (.int (0 : Int32))]) rfl ?_
            refine XS.iinc X565.here hx rfl (hb hby d3_49) rfl (l' := #[.val (.ref a1), .val (.int (4 : Int32)), .val (.int (2 : Int32)), .val (.ref b549), .val (.int q1), .val (.int (-1 : Int32))]) rfl ?_
            refine XS.goto X565.here hx rfl (pc0 := 52) (pc' := 32) rfl (hb hby d3_52) (by decide) (by decide) ?_
            refine XS.iload X565.here hx rfl (hb hby d3_32) rfl ?_
            show Steps p.tables e below (T565.setTop (mkF m 34 #[.val (.ref a1), .val (.int (4 : Int32)), .val (.int (2 : Int32)), .val (.ref b549), .val (.int q1), .val (.int (-1 : Int32))] [(.int (-1 : Int32))])) _
            refine XS.ifYes X565.here hx rfl (pc0 := 34) (pc' := 55) rfl (hb hby d3_34) rfl ((if0 _ _).trans (tlt (by decide)).1) (by decide) (by decide) ?_
            refine XS.aloadN X565.here hx rfl (hb hby d3_55) rfl rfl ?_
            show Steps p.tables e below (T565.setTop (mkF m 56 #[.val (.ref a1), .val (.int (4 : Int32)), .val (.int (2 : Int32)), .val (.ref b549), .val (.int q1), .val (.int (-1 : Int32))] [(.ref b549)])) _
            exact own_retA X565 hx Bd.returns rfl rfl rfl (hb hby d3_56) hr
          · show Q3 Z (4 : Int32) [(.int q0), (.int q1), (.int q2), (.int q3), (.int (1 : Int32))] h0 n0 _ T565.heap _
            rw [e565]
            exact ⟨_, _, _, _, rfl, N570, KP569, sz_b549, V565, ⟨by decide, by decide⟩, ⟨by decide, by decide⟩, rfl, Or.inr ⟨1, q1, 0, by decide, rfl, ⟨by decide, by decide⟩, rfl, Or.inl ⟨rfl, hc547⟩⟩, Or.inr ⟨4, 1, 1, by decide, rfl, ⟨by decide, by decide⟩, rfl, Or.inr ⟨by decide, ⟨by decide, by decide⟩, rfl, rfl⟩⟩, Or.inl (by decide), Or.inl (by decide), Or.inl (by decide)⟩
        · have K574 : ∀ t, Steps p.tables e below (s₁.setTop (mkF m 15 #[.val (.ref a1), .val (.int (4 : Int32)), .val (.int (3 : Int32)), .val (.int (1 : Int32)), .unset, .unset] [(.int (1 : Int32)), (.ref a1)])) t → Steps p.tables e below G t := by
            intro t k
            refine K546 t ?_
            show Steps p.tables e below (s₁.setTop (mkF m 7 #[.val (.ref a1), .val (.int (4 : Int32)), .val (.int (2 : Int32)), .val (.int (1 : Int32)), .unset, .unset] [(.int q1)])) _
            refine XS.ifNo X0.here hx rfl (hb hby d3_7) rfl ((if0 _ _).trans (flt hc547).1) ?_
            refine XS.iinc X0.here hx rfl (hb hby d3_10) rfl (l' := #[.val (.ref a1), .val (.int (4 : Int32)), .val (.int (3 : Int32)), .val (.int (1 : Int32)), .unset, .unset]) rfl ?_
            refine XS.aloadN X0.here hx rfl (hb hby d3_13) rfl rfl ?_
            refine XS.iloadN X0.here hx rfl (hb hby d3_14) rfl ?_
            show Steps p.tables e below (s₁.setTop (mkF m 15 #[.val (.ref a1), .val (.int (4 : Int32)), .val (.int (3 : Int32)), .val (.int (1 : Int32)), .unset, .unset] [(.int (1 : Int32)), (.ref a1)])) _
            exact k
          obtain ⟨cl575, Ar575, qc575, S575, M575, Ha575, Ga575⟩ := id V1
          have hin575 : ¬ ((1 : Int32) < 0 ∨ cl575.slots.size ≤ ((1 : Int32)).toNatClampNeg) := inb_of S575 ⟨by decide, by decide⟩
          have hat575 : cl575.slots[((1 : Int32)).toNatClampNeg]? = some (.int q1) := Ha575.at hin575 rfl
          have K576 : ∀ t, Steps p.tables e below (s₁.setTop (mkF m 16 #[.val (.ref a1), .val (.int (4 : Int32)), .val (.int (3 : Int32)), .val (.int (1 : Int32)), .unset, .unset] [(.int q1)])) t → Steps p.tables e below G t := fun t k => K574 t (X0.iaload hx (j := (1 : Int32)) (v := (.int q1)) (by rw [e0]; exact Ar575.1) (State.isArrayOf_alike hZ.alike Ar575.2.1) Ar575.2.2 hin575 hat575 (g := (mkF m 15 #[.val (.ref a1), .val (.int (4 : Int32)), .val (.int (3 : Int32)), .val (.int (1 : Int32)), .unset, .unset] [(.int (1 : Int32)), (.ref a1)])) rfl rfl (hb hby d3_15) _ k)
          have K577 : ∀ t, Steps p.tables e below (s₁.setTop (mkF m 4 #[.val (.ref a1), .val (.int (4 : Int32)), .val (.int (3 : Int32)), .val (.int q1), .unset, .unset] [])) t → Steps p.tables e below G t := by
            intro t k
            refine K576 t ?_
            show Steps p.tables e below (s₁.setTop (mkF m 16 #[.val (.ref a1), .val (.int (4 : Int32)), .val (.int (3 : Int32)), .val (.int (1 : Int32)), .unset, .unset] [(.int q1)])) _
            refine XS.istoreN X0.here hx rfl (hb hby d3_16) rfl (l' := #[.val (.ref a1), .val (.int (4 : Int32)), .val (.int (3 : Int32)), .val (.int q1), .unset, .unset]) rfl ?_
            refine XS.goto X0.here hx rfl (pc0 := 17) (pc' := 4) rfl (hb hby d3_17) (by decide) (by decide) ?_
            show Steps p.tables e below (s₁.setTop (mkF m 4 #[.val (.ref a1), .val (.int (4 : Int32)), .val (.int (3 : Int32)), .val (.int q1), .unset, .unset] [])) _
            exact k
          obtain rfl := own_lt1 hc547 hq1
          · have K578 : ∀ t, Steps p.tables e below (s₁.setTop (mkF m 6 #[.val (.ref a1), .val (.int (4 : Int32)), .val (.int (3 : Int32)), .val (.int (0 : Int32)), .unset, .unset] [(.int (0 : Int32)), (.ref a1)])) t → Steps p.tables e below G t := by
              intro t k
              refine K577 t ?_
              show Steps p.tables e below (s₁.setTop (mkF m 4 #[.val (.ref a1), .val (.int (4 : Int32)), .val (.int (3 : Int32)), .val (.int (0 : Int32)), .unset, .unset] [])) _
              refine XS.aloadN X0.here hx rfl (hb hby d3_4) rfl rfl ?_
              refine XS.iloadN X0.here hx rfl (hb hby d3_5) rfl ?_
              show Steps p.tables e below (s₁.setTop (mkF m 6 #[.val (.ref a1), .val (.int (4 : Int32)), .val (.int (3 : Int32)), .val (.int (0 : Int32)), .unset, .unset] [(.int (0 : Int32)), (.ref a1)])) _
              exact k
            obtain ⟨cl579, Ar579, qc579, S579, M579, Ha579, Ga579⟩ := id V1
            have hin579 : ¬ ((0 : Int32) < 0 ∨ cl579.slots.size ≤ ((0 : Int32)).toNatClampNeg) := inb_of S579 ⟨by decide, by decide⟩
            have hat579 : cl579.slots[((0 : Int32)).toNatClampNeg]? = some (.int q0) := Ha579.at hin579 rfl
            have K580 : ∀ t, Steps p.tables e below (s₁.setTop (mkF m 7 #[.val (.ref a1), .val (.int (4 : Int32)), .val (.int (3 : Int32)), .val (.int (0 : Int32)), .unset, .unset] [(.int q0)])) t → Steps p.tables e below G t := fun t k => K578 t (X0.iaload hx (j := (0 : Int32)) (v := (.int q0)) (by rw [e0]; exact Ar579.1) (State.isArrayOf_alike hZ.alike Ar579.2.1) Ar579.2.2 hin579 hat579 (g := (mkF m 6 #[.val (.ref a1), .val (.int (4 : Int32)), .val (.int (3 : Int32)), .val (.int (0 : Int32)), .unset, .unset] [(.int (0 : Int32)), (.ref a1)])) rfl rfl (hb hby d3_6) _ k)
            have K581 : ∀ t, Steps p.tables e below (s₁.setTop (mkF m 21 #[.val (.ref a1), .val (.int (4 : Int32)), .val (.int (3 : Int32)), .val (.int (0 : Int32)), .unset, .unset] [(.int (3 : Int32))])) t → Steps p.tables e below G t := by
              intro t k
              refine K580 t ?_
              show Steps p.tables e below (s₁.setTop (mkF m 7 #[.val (.ref a1), .val (.int (4 : Int32)), .val (.int (3 : Int32)), .val (.int (0 : Int32)), .unset, .unset] [(.int q0)])) _
              refine XS.ifYes X0.here hx rfl (pc0 := 7) (pc' := 20) rfl (hb hby d3_7) rfl ((if0 _ _).trans (tlt hq0).1) (by decide) (by decide) ?_
              refine XS.iloadN X0.here hx rfl (hb hby d3_20) rfl ?_
              show Steps p.tables e below (s₁.setTop (mkF m 21 #[.val (.ref a1), .val (.int (4 : Int32)), .val (.int (3 : Int32)), .val (.int (0 : Int32)), .unset, .unset] [(.int (3 : Int32))])) _
              exact k
            obtain ⟨T582, h582, kn582, X582, e582, E582, A582, st582⟩ := newP X0 hx hZ (hw _ (List.mem_of_getElem? (i := 8) rfl)) e0 (g := (mkF m 21 #[.val (.ref a1), .val (.int (4 : Int32)), .val (.int (3 : Int32)), .val (.int (0 : Int32)), .unset, .unset] [(.int (3 : Int32))])) rfl (hb hby d3_21) rfl (by decide) (cap := 3) (by decide) (by decide) (by decide) (by decide)
            obtain ⟨b582, g582⟩ : ∃ z, z = h0.size := ⟨_, rfl⟩
            rw [← g582] at A582 st582
            have ne_a1_b582 : a1 ≠ b582 := Nat.ne_of_lt (Nat.lt_of_lt_of_le V1.lt (Nat.le_of_eq g582.symm))
            have g_b582 : n0 ≤ b582 := Nat.le_trans Z0 (Nat.le_of_eq g582.symm)
            have sz_b582 : h0.size ≤ b582 := Nat.le_trans KP0.1 (Nat.le_of_eq g582.symm)
            have f583 := V1.ext E582
            have Z584 : n0 ≤ h582.size := Nat.le_trans Z0 E582.1
            have KP585 : Keep h0 h582 [] := KP0.ext E582
            have K586 : ∀ t, Steps p.tables e below (T582.setTop (mkF m 23 #[.val (.ref a1), .val (.int (4 : Int32)), .val (.int (3 : Int32)), .val (.int (0 : Int32)), .unset, .unset] [(.ref b582)])) t → Steps p.tables e below G t := fun t k => K581 t (st582 t k)
            have V582 : Arv Z h582 b582 kn582 .int (3 : Int32) [(.int (0 : Int32)), (.int (0 : Int32)), (.int (0 : Int32))] (.int (0 : Int32)) := (Arv.new A582 (by decide)).pad (pad_rep [] (.int (0 : Int32)) 3)
            have K587 : ∀ t, Steps p.tables e below (T582.setTop (mkF m 42 #[.val (.ref a1), .val (.int (4 : Int32)), .val (.int (3 : Int32)), .val (.ref b582), .val (.int (4 : Int32)), .val (.int (2 : Int32))] [(.int (4 : Int32)), (.int (2 : Int32)), (.ref b582)])) t → Steps p.tables e below G t := by
              intro t k
              refine K586 t ?_
              show Steps p.tables e below (T582.setTop (mkF m 23 #[.val (.ref a1), .val (.int (4 : Int32)), .val (.int (3 : Int32)), .val (.int (0 : Int32)), .unset, .unset] [(.ref b582)])) _
              refine XS.astoreN X582.here hx rfl (hb hby d3_23) rfl rfl (l' := #[.val (.ref a1), .val (.int (4 : Int32)), .val (.int (3 : Int32)), .val (.ref b582), .unset, .unset]) rfl ?_
              refine XS.iloadN X582.here hx rfl (hb hby d3_24) rfl ?_
              refine XS.istore X582.here hx rfl (hb hby d3_25) rfl (l' := #[.val (.ref a1), .val (.int (4 : Int32)), .val (.int (3 : Int32)), .val (.ref b582), .val (.int (4 : Int32)), .unset]) rfl ?_
              refine XS.iloadN X582.here hx rfl (hb hby d3_27) rfl ?_
              show Steps p.tables e below (T582.setTop (mkF m 28 #[.val (.ref a1), .val (.int (4 : Int32)), .val (.int (3 : Int32)), .val (.ref b582), .val (.int (4 : Int32)), .unset] [(.int (3 : Int32))])) _
              refine XS.iconst X582.here hx rfl (hb hby d3_28) ?_
              refine XS.isub X582.here hx rfl (hb hby d3_29) rfl ?_
              refine XS.istore X582.here hx rfl (hb hby d3_30) rfl (l' := #[.val (.ref a1), .val (.int (4 : Int32)), .val (.int (3 : Int32)), .val (.ref b582), .val (.int (4 : Int32)), .val (.int (2 : Int32))]) rfl ?_
              refine XS.iload X582.here hx rfl (hb hby d3_32) rfl ?_
              show Steps p.tables e below (T582.setTop (mkF m 34 #[.val (.ref a1), .val (.int (4 : Int32)), .val (.int (3 : Int32)), .val (.ref b582), .val (.int (4 : Int32)), .val (.int (2 : Int32))] [(.int (2 : Int32))])) _
              refine XS.ifNo X582.here hx rfl (hb hby d3_34) rfl ((if0 _ _).trans (flt (by decide)).1) ?_
              refine XS.aloadN X582.here hx rfl (hb hby d3_37) rfl rfl ?_
              refine XS.iload X582.here hx rfl (hb hby d3_38) rfl ?_
              refine XS.iload X582.here hx rfl (hb hby d3_40) rfl ?_
              show Steps p.tables e below (T582.setTop (mkF m 42 #[.val (.ref a1), .val (.int (4 : Int32)), .val (.int (3 : Int32)), .val (.ref b582), .val (.int (4 : Int32)), .val (.int (2 : Int32))] [(.int (4 : Int32)), (.int (2 : Int32)), (.ref b582)])) _
              exact k
            obtain ⟨cl588, Ar588, qc588, S588, M588, Ha588, Ga588⟩ := id V582
            have hin588 : ¬ ((2 : Int32) < 0 ∨ cl588.slots.size ≤ ((2 : Int32)).toNatClampNeg) := inb_of S588 ⟨by decide, by decide⟩
            obtain ⟨T588, h588, X588, e588, W588, st588⟩ := stI X582 hx hZ e582 Ar588 (j := (2 : Int32)) hin588 (g := (mkF m 42 #[.val (.ref a1), .val (.int (4 : Int32)), .val (.int (3 : Int32)), .val (.ref b582), .val (.int (4 : Int32)), .val (.int (2 : Int32))] [(.int (4 : Int32)), (.int (2 : Int32)), (.ref b582)])) rfl rfl (hb hby d3_42)
            have V588 : Arv Z h588 b582 kn582 .int (3 : Int32) [(.int (0 : Int32)), (.int (0 : Int32)), (.int (4 : Int32))] (.int (0 : Int32)) := Arv.set Ar588 qc588 S588 M588 Ha588 Ga588 rfl W588 2 rfl (Nat.le_of_ble_eq_true rfl)
            have K589 : ∀ t, Steps p.tables e below (T588.setTop (mkF m 43 #[.val (.ref a1), .val (.int (4 : Int32)), .val (.int (3 : Int32)), .val (.ref b582), .val (.int (4 : Int32)), .val (.int (2 : Int32))] [])) t → Steps p.tables e below G t := fun t k => K587 t (st588 t k)
            have f590 := f583.other W588 ne_a1_b582
            have Z591 : n0 ≤ h588.size := Nat.le_trans Z584 (Keep.of_wr W588).1
            have KP592 : Keep h0 h588 [] := KP585.wr W588 (Or.inr sz_b582)
            have N593 := Fr.snoc X588 N0 g_b582
            have K594 : ∀ t, Steps p.tables e below (T588.setTop (mkF m 46 #[.val (.ref a1), .val (.int (4 : Int32)), .val (.int (3 : Int32)), .val (.ref b582), .val (.int (4 : Int32)), .val (.int (2 : Int32))] [(.int (4 : Int32)), (.ref a1)])) t → Steps p.tables e below G t := by
              intro t k
              refine K589 t ?_
              show Steps p.tables e below (T588.setTop (mkF m 43 #[.val (.ref a1), .val (.int (4 : Int32)), .val (.int (3 : Int32)), .val (.ref b582), .val (.int (4 : Int32)), .val (.int (2 : Int32))] [])) _
              refine XS.aloadN X588.here hx rfl (hb hby d3_43) rfl rfl ?_
              refine XS.iload X588.here hx rfl (hb hby d3_44) rfl ?_
              show Steps p.tables e below (T588.setTop (mkF m 46 #[.val (.ref a1), .val (.int (4 : Int32)), .val (.int (3 : Int32)), .val (.ref b582), .val (.int (4 : Int32)), .val (.int (2 : Int32))] [(.int (4 : Int32)), (.ref a1)])) _
              exact k
            obtain ⟨cl595, Ar595, qc595, S595, M595, Ha595, Ga595⟩ := id f590
            have hin595 : ¬ ((4 : Int32) < 0 ∨ cl595.slots.size ≤ ((4 : Int32)).toNatClampNeg) := inb_of S595 ⟨by decide, by decide⟩
            have hat595 : cl595.slots[((4 : Int32)).toNatClampNeg]? = some (.int (1 : Int32)) := Ha595.at hin595 rfl
            have K596 : ∀ t, Steps p.tables e below (T588.setTop (mkF m 47 #[.val (.ref a1), .val (.int (4 : Int32)), .val (.int (3 : Int32)), .val (.ref b582), .val (.int (4 : Int32)), .val (.int (2 : Int32))] [(.int (1 : Int32))])) t → Steps p.tables e below G t := fun t k => K594 t (X588.iaload hx (j := (4 : Int32)) (v := (.int (1 : Int32))) (by rw [e588]; exact Ar595.1) (State.isArrayOf_alike hZ.alike Ar595.2.1) Ar595.2.2 hin595 hat595 (g := (mkF m 46 #[.val (.ref a1), .val (.int (4 : Int32)), .val (.int (3 : Int32)), .val (.ref b582), .val (.int (4 : Int32)), .val (.int (2 : Int32))] [(.int (4 : Int32)), (.ref a1)])) rfl rfl (hb hby d3_46) _ k)
            have K597 : ∀ t, Steps p.tables e below (T588.setTop (mkF m 42 #[.val (.ref a1), .val (.int (4 : Int32)), .val (.int (3 : Int32)), .val (.ref b582), .val (.int (1 : Int32)), .val (.int (1 : Int32))] [(.int (1 : Int32)), (.int (1 : Int32)), (.ref b582)])) t → Steps p.tables e below G t := by
              intro t k
              refine K596 t ?_
              show Steps p.tables e below (T588.setTop (mkF m 47 #[.val (.ref a1), .val (.int (4 : Int32)), .val (.int (3 : Int32)), .val (.ref b582), .val (.int (4 : Int32)), .val (.int (2 : Int32))] [(.int (1 : Int32))])) _
              refine XS.istore X588.here hx rfl (hb hby d3_47) rfl (l' := #[.val (.ref a1), .val (.int (4 : Int32)), .val (.int (3 : Int32)), .val (.ref b582), .val (.int (1 : Int32)), .val (.int (2 : Int32))]) rfl ?_
              refine XS.iinc X588.here hx rfl (hb hby d3_49) rfl (l' := #[.val (.ref a1), .val (.int (4 : Int32)), .val (.int (3 : Int32)), .val (.ref b582), .val (.int (1 : Int32)), .val (.int (1 : Int32))]) rfl ?_
              refine XS.goto X588.here hx rfl (pc0 := 52) (pc' := 32) rfl (hb hby d3_52) (by decide) (by decide) ?_
              refine XS.iload X588.here hx rfl (hb hby d3_32) rfl ?_
              show Steps p.tables e below (T588.setTop (mkF m 34 #[.val (.ref a1), .val (.int (4 : Int32)), .val (.int (3 : Int32)), .val (.ref b582), .val (.int (1 : Int32)), .val (.int (1 : Int32))] [(.int (1 : Int32))])) _
              refine XS.ifNo X588.here hx rfl (hb hby d3_34) rfl ((if0 _ _).trans (flt (by decide)).1) ?_
              refine XS.aloadN X588.here hx rfl (hb hby d3_37) rfl rfl ?_
              refine XS.iload X588.here hx rfl (hb hby d3_38) rfl ?_
              refine XS.iload X588.here hx rfl (hb hby d3_40) rfl ?_
              show Steps p.tables e below (T588.setTop (mkF m 42 #[.val (.ref a1), .val (.int (4 : Int32)), .val (.int (3 : Int32)), .val (.ref b582), .val (.int (1 : Int32)), .val (.int (1 : Int32))] [(.int (1 : Int32)), (.int (1 : Int32)), (.ref b582)])) _
              exact k
            obtain ⟨cl598, Ar598, qc598, S598, M598, Ha598, Ga598⟩ := id V588
            have hin598 : ¬ ((1 : Int32) < 0 ∨ cl598.slots.size ≤ ((1 : Int32)).toNatClampNeg) := inb_of S598 ⟨by decide, by decide⟩
            obtain ⟨T598, h598, X598, e598, W598, st598⟩ := stI X588 hx hZ e588 Ar598 (j := (1 : Int32)) hin598 (g := (mkF m 42 #[.val (.ref a1), .val (.int (4 : Int32)), .val (.int (3 : Int32)), .val (.ref b582), .val (.int (1 : Int32)), .val (.int (1 : Int32))] [(.int (1 : Int32)), (.int (1 : Int32)), (.ref b582)])) rfl rfl (hb hby d3_42)
            have V598 : Arv Z h598 b582 kn582 .int (3 : Int32) [(.int (0 : Int32)), (.int (1 : Int32)), (.int (4 : Int32))] (.int (0 : Int32)) := Arv.set Ar598 qc598 S598 M598 Ha598 Ga598 rfl W598 1 rfl (Nat.le_of_ble_eq_true rfl)
            have K599 : ∀ t, Steps p.tables e below (T598.setTop (mkF m 43 #[.val (.ref a1), .val (.int (4 : Int32)), .val (.int (3 : Int32)), .val (.ref b582), .val (.int (1 : Int32)), .val (.int (1 : Int32))] [])) t → Steps p.tables e below G t := fun t k => K597 t (st598 t k)
            have f600 := f590.other W598 ne_a1_b582
            have Z601 : n0 ≤ h598.size := Nat.le_trans Z591 (Keep.of_wr W598).1
            have KP602 : Keep h0 h598 [] := KP592.wr W598 (Or.inr sz_b582)
            have N603 := Fr.snoc X598 N593 g_b582
            have K604 : ∀ t, Steps p.tables e below (T598.setTop (mkF m 46 #[.val (.ref a1), .val (.int (4 : Int32)), .val (.int (3 : Int32)), .val (.ref b582), .val (.int (1 : Int32)), .val (.int (1 : Int32))] [(.int (1 : Int32)), (.ref a1)])) t → Steps p.tables e below G t := by
              intro t k
              refine K599 t ?_
              show Steps p.tables e below (T598.setTop (mkF m 43 #[.val (.ref a1), .val (.int (4 : Int32)), .val (.int (3 : Int32)), .val (.ref b582), .val (.int (1 : Int32)), .val (.int (1 : Int32))] [])) _
              refine XS.aloadN X598.here hx rfl (hb hby d3_43) rfl rfl ?_
              refine XS.iload X598.here hx rfl (hb hby d3_44) rfl ?_
              show Steps p.tables e below (T598.setTop (mkF m 46 #[.val (.ref a1), .val (.int (4 : Int32)), .val (.int (3 : Int32)), .val (.ref b582), .val (.int (1 : Int32)), .val (.int (1 : Int32))] [(.int (1 : Int32)), (.ref a1)])) _
              exact k
            obtain ⟨cl605, Ar605, qc605, S605, M605, Ha605, Ga605⟩ := id f600
            have hin605 : ¬ ((1 : Int32) < 0 ∨ cl605.slots.size ≤ ((1 : Int32)).toNatClampNeg) := inb_of S605 ⟨by decide, by decide⟩
            have hat605 : cl605.slots[((1 : Int32)).toNatClampNeg]? = some (.int (0 : Int32)) := Ha605.at hin605 rfl
            have K606 : ∀ t, Steps p.tables e below (T598.setTop (mkF m 47 #[.val (.ref a1), .val (.int (4 : Int32)), .val (.int (3 : Int32)), .val (.ref b582), .val (.int (1 : Int32)), .val (.int (1 : Int32))] [(.int (0 : Int32))])) t → Steps p.tables e below G t := fun t k => K604 t (X598.iaload hx (j := (1 : Int32)) (v := (.int (0 : Int32))) (by rw [e598]; exact Ar605.1) (State.isArrayOf_alike hZ.alike Ar605.2.1) Ar605.2.2 hin605 hat605 (g := (mkF m 46 #[.val (.ref a1), .val (.int (4 : Int32)), .val (.int (3 : Int32)), .val (.ref b582), .val (.int (1 : Int32)), .val (.int (1 : Int32))] [(.int (1 : Int32)), (.ref a1)])) rfl rfl (hb hby d3_46) _ k)
            have K607 : ∀ t, Steps p.tables e below (T598.setTop (mkF m 42 #[.val (.ref a1), .val (.int (4 : Int32)), .val (.int (3 : Int32)), .val (.ref b582), .val (.int (0 : Int32)), .val (.int (0 : Int32))] [(.int (0 : Int32)), (.int (0 : Int32)), (.ref b582)])) t → Steps p.tables e below G t := by
              intro t k
              refine K606 t ?_
              show Steps p.tables e below (T598.setTop (mkF m 47 #[.val (.ref a1), .val (.int (4 : Int32)), .val (.int (3 : Int32)), .val (.ref b582), .val (.int (1 : Int32)), .val (.int (1 : Int32))] [(.int (0 : Int32))])) _
              refine XS.istore X598.here hx rfl (hb hby d3_47) rfl (l' := #[.val (.ref a1), .val (.int (4 : Int32)), .val (.int (3 : Int32)), .val (.ref b582), .val (.int (0 : Int32)), .val (.int (1 : Int32))]) rfl ?_
              refine XS.iinc X598.here hx rfl (hb hby d3_49) rfl (l' := #[.val (.ref a1), .val (.int (4 : Int32)), .val (.int (3 : Int32)), .val (.ref b582), .val (.int (0 : Int32)), .val (.int (0 : Int32))]) rfl ?_
              refine XS.goto X598.here hx rfl (pc0 := 52) (pc' := 32) rfl (hb hby d3_52) (by decide) (by decide) ?_
              refine XS.iload X598.here hx rfl (hb hby d3_32) rfl ?_
              show Steps p.tables e below (T598.setTop (mkF m 34 #[.val (.ref a1), .val (.int (4 : Int32)), .val (.int (3 : Int32)), .val (.ref b582), .val (.int (0 : Int32)), .val (.int (0 : Int32))] [(.int (0 : Int32))])) _
              refine XS.ifNo X598.here hx rfl (hb hby d3_34) rfl ((if0 _ _).trans (flt (by decide)).1) ?_
              refine XS.aloadN X598.here hx rfl (hb hby d3_37) rfl rfl ?_
              refine XS.iload X598.here hx rfl (hb hby d3_38) rfl ?_
              refine XS.iload X598.here hx rfl (hb hby d3_40) rfl ?_
              show Steps p.tables e below (T598.setTop (mkF m 42 #[.val (.ref a1), .val (.int (4 : Int32)), .val (.int (3 : Int32)), .val (.ref b582), .val (.int (0 : Int32)), .val (.int (0 : Int32))] [(.int (0 : Int32)), (.int (0 : Int32)), (.ref b582)])) _
              exact k
            obtain ⟨cl608, Ar608, qc608, S608, M608, Ha608, Ga608⟩ := id V598
            have hin608 : ¬ ((0 : Int32) < 0 ∨ cl608.slots.size ≤ ((0 : Int32)).toNatClampNeg) := inb_of S608 ⟨by decide, by decide⟩
            obtain ⟨T608, h608, X608, e608, W608, st608⟩ := stI X598 hx hZ e598 Ar608 (j := (0 : Int32)) hin608 (g := (mkF m 42 #[.val (.ref a1), .val (.int (4 : Int32)), .val (.int (3 : Int32)), .val (.ref b582), .val (.int (0 : Int32)), .val (.int (0 : Int32))] [(.int (0 : Int32)), (.int (0 : Int32)), (.ref b582)])) rfl rfl (hb hby d3_42)
            have V608 : Arv Z h608 b582 kn582 .int (3 : Int32) [(.int (0 : Int32)), (.int (1 : Int32)), (.int (4 : Int32))] (.int (0 : Int32)) := Arv.set Ar608 qc608 S608 M608 Ha608 Ga608 rfl W608 0 rfl (Nat.le_of_ble_eq_true rfl)
            have K609 : ∀ t, Steps p.tables e below (T608.setTop (mkF m 43 #[.val (.ref a1), .val (.int (4 : Int32)), .val (.int (3 : Int32)), .val (.ref b582), .val (.int (0 : Int32)), .val (.int (0 : Int32))] [])) t → Steps p.tables e below G t := fun t k => K607 t (st608 t k)
            have f610 := f600.other W608 ne_a1_b582
            have Z611 : n0 ≤ h608.size := Nat.le_trans Z601 (Keep.of_wr W608).1
            have KP612 : Keep h0 h608 [] := KP602.wr W608 (Or.inr sz_b582)
            have N613 := Fr.snoc X608 N603 g_b582
            have K614 : ∀ t, Steps p.tables e below (T608.setTop (mkF m 46 #[.val (.ref a1), .val (.int (4 : Int32)), .val (.int (3 : Int32)), .val (.ref b582), .val (.int (0 : Int32)), .val (.int (0 : Int32))] [(.int (0 : Int32)), (.ref a1)])) t → Steps p.tables e below G t := by
              intro t k
              refine K609 t ?_
              show Steps p.tables e below (T608.setTop (mkF m 43 #[.val (.ref a1), .val (.int (4 : Int32)), .val (.int (3 : Int32)), .val (.ref b582), .val (.int (0 : Int32)), .val (.int (0 : Int32))] [])) _
              refine XS.aloadN X608.here hx rfl (hb hby d3_43) rfl rfl ?_
              refine XS.iload X608.here hx rfl (hb hby d3_44) rfl ?_
              show Steps p.tables e below (T608.setTop (mkF m 46 #[.val (.ref a1), .val (.int (4 : Int32)), .val (.int (3 : Int32)), .val (.ref b582), .val (.int (0 : Int32)), .val (.int (0 : Int32))] [(.int (0 : Int32)), (.ref a1)])) _
              exact k
            obtain ⟨cl615, Ar615, qc615, S615, M615, Ha615, Ga615⟩ := id f610
            have hin615 : ¬ ((0 : Int32) < 0 ∨ cl615.slots.size ≤ ((0 : Int32)).toNatClampNeg) := inb_of S615 ⟨by decide, by decide⟩
            have hat615 : cl615.slots[((0 : Int32)).toNatClampNeg]? = some (.int q0) := Ha615.at hin615 rfl
            have K616 : ∀ t, Steps p.tables e below (T608.setTop (mkF m 47 #[.val (.ref a1), .val (.int (4 : Int32)), .val (.int (3 : Int32)), .val (.ref b582), .val (.int (0 : Int32)), .val (.int (0 : Int32))] [(.int q0)])) t → Steps p.tables e below G t := fun t k => K614 t (X608.iaload hx (j := (0 : Int32)) (v := (.int q0)) (by rw [e608]; exact Ar615.1) (State.isArrayOf_alike hZ.alike Ar615.2.1) Ar615.2.2 hin615 hat615 (g := (mkF m 46 #[.val (.ref a1), .val (.int (4 : Int32)), .val (.int (3 : Int32)), .val (.ref b582), .val (.int (0 : Int32)), .val (.int (0 : Int32))] [(.int (0 : Int32)), (.ref a1)])) rfl rfl (hb hby d3_46) _ k)
            obtain ⟨fs, hr, hrun, hended, hW, hsame⟩ := X608.leave (v := some (.ref b582)) (fun h => by rw [Bd.returns] at h; cases h)
            have KF := K616
            rw [hG] at KF
            refine ⟨_, _, KF _ ?_, hrun, hended, _, _, rfl, ?_, ⟨_, rfl⟩, hW, hsame.mono (by decide) (by decide)⟩
            · show Steps p.tables e below (T608.setTop (mkF m 47 #[.val (.ref a1), .val (.int (4 : Int32)), .val (.int (3 : Int32)), .val (.ref b582), .val (.int (0 : Int32)), .val (.int (0 : Int32))] [(.int q0)])) _
              refine XS.istore X608.here hx rfl (hb hby d3_47) rfl (l' := #[.val (.ref a1), .val (.int (4 : Int32)), .val (.int (3 : Int32)), .val (.ref b582), .val (.int q0), .val (.int (0 : Int32))]) rfl ?_
              refine XS.iinc X608.here hx rfl (hb hby d3_49) rfl (l' := #[.val (.ref a1), .val (.int (4 : Int32)), .val (.int (3 : Int32)), .val (.ref b582), .val (.int q0), .val (.int (-1 : Int32))]) rfl ?_
              refine XS.goto X608.here hx rfl (pc0 := 52) (pc' := 32) rfl (hb hby d3_52) (by decide) (by decide) ?_
              refine XS.iload X608.here hx rfl (hb hby d3_32) rfl ?_
              show Steps p.tables e below (T608.setTop (mkF m 34 #[.val (.ref a1), .val (.int (4 : Int32)), .val (.int (3 : Int32)), .val (.ref b582), .val (.int q0), .val (.int (-1 : Int32))] [(.int (-1 : Int32))])) _
              refine XS.ifYes X608.here hx rfl (pc0 := 34) (pc' := 55) rfl (hb hby d3_34) rfl ((if0 _ _).trans (tlt (by decide)).1) (by decide) (by decide) ?_
              refine XS.aloadN X608.here hx rfl (hb hby d3_55) rfl rfl ?_
              show Steps p.tables e below (T608.setTop (mkF m 56 #[.val (.ref a1), .val (.int (4 : Int32)), .val (.int (3 : Int32)), .val (.ref b582), .val (.int q0), .val (.int (-1 : Int32))] [(.ref b582)])) _
              exact own_retA X608 hx Bd.returns rfl rfl rfl (hb hby d3_56) hr
            · show Q3 Z (4 : Int32) [(.int q0), (.int (0 : Int32)), (.int q2), (.int q3), (.int (1 : Int32))] h0 n0 _ T608.heap _
              rw [e608]
              exact ⟨_, _, _, _, rfl, N613, KP612, sz_b582, V608, ⟨by decide, by decide⟩, ⟨by decide, by decide⟩, rfl, Or.inr ⟨0, q0, 0, by decide, rfl, ⟨by decide, by decide⟩, rfl, Or.inl ⟨rfl, hq0⟩⟩, Or.inr ⟨1, 0, 0, by decide, rfl, ⟨by decide, by decide⟩, rfl, Or.inr ⟨by decide, ⟨by decide, by decide⟩, rfl, rfl⟩⟩, Or.inr ⟨4, 1, 1, by decide, rfl, ⟨by decide, by decide⟩, rfl, Or.inr ⟨by decide, ⟨by decide, by decide⟩, rfl, rfl⟩⟩, Or.inl (by decide), Or.inl (by decide)⟩
      · have K617 : ∀ t, Steps p.tables e below (s₁.setTop (mkF m 6 #[.val (.ref a1), .val (.int (4 : Int32)), .val (.int (2 : Int32)), .val (.int (2 : Int32)), .unset, .unset] [(.int (2 : Int32)), (.ref a1)])) t → Steps p.tables e below G t := by
          intro t k
          refine K514 t ?_
          show Steps p.tables e below (s₁.setTop (mkF m 4 #[.val (.ref a1), .val (.int (4 : Int32)), .val (.int (2 : Int32)), .val (.int (2 : Int32)), .unset, .unset] [])) _
          refine XS.aloadN X0.here hx rfl (hb hby d3_4) rfl rfl ?_
          refine XS.iloadN X0.here hx rfl (hb hby d3_5) rfl ?_
          show Steps p.tables e below (s₁.setTop (mkF m 6 #[.val (.ref a1), .val (.int (4 : Int32)), .val (.int (2 : Int32)), .val (.int (2 : Int32)), .unset, .unset] [(.int (2 : Int32)), (.ref a1)])) _
          exact k
        obtain ⟨cl618, Ar618, qc618, S618, M618, Ha618, Ga618⟩ := id V1
        have hin618 : ¬ ((2 : Int32) < 0 ∨ cl618.slots.size ≤ ((2 : Int32)).toNatClampNeg) := inb_of S618 ⟨by decide, by decide⟩
        have hat618 : cl618.slots[((2 : Int32)).toNatClampNeg]? = some (.int q2) := Ha618.at hin618 rfl
        have K619 : ∀ t, Steps p.tables e below (s₁.setTop (mkF m 7 #[.val (.ref a1), .val (.int (4 : Int32)), .val (.int (2 : Int32)), .val (.int (2 : Int32)), .unset, .unset] [(.int q2)])) t → Steps p.tables e below G t := fun t k => K617 t (X0.iaload hx (j := (2 : Int32)) (v := (.int q2)) (by rw [e0]; exact Ar618.1) (State.isArrayOf_alike hZ.alike Ar618.2.1) Ar618.2.2 hin618 hat618 (g := (mkF m 6 #[.val (.ref a1), .val (.int (4 : Int32)), .val (.int (2 : Int32)), .val (.int (2 : Int32)), .unset, .unset] [(.int (2 : Int32)), (.ref a1)])) rfl rfl (hb hby d3_6) _ k)
        by_cases hc620 : q2 < (0 : Int32)
        · have K621 : ∀ t, Steps p.tables e below (s₁.setTop (mkF m 21 #[.val (.ref a1), .val (.int (4 : Int32)), .val (.int (2 : Int32)), .val (.int (2 : Int32)), .unset, .unset] [(.int (2 : Int32))])) t → Steps p.tables e below G t := by
            intro t k
            refine K619 t ?_
            show Steps p.tables e below (s₁.setTop (mkF m 7 #[.val (.ref a1), .val (.int (4 : Int32)), .val (.int (2 : Int32)), .val (.int (2 : Int32)), .unset, .unset] [(.int q2)])) _
            refine XS.ifYes X0.here hx rfl (pc0 := 7) (pc' := 20) rfl (hb hby d3_7) rfl ((if0 _ _).trans (tlt hc620).1) (by decide) (by decide) ?_
            refine XS.iloadN X0.here hx rfl (hb hby d3_20) rfl ?_
            show Steps p.tables e below (s₁.setTop (mkF m 21 #[.val (.ref a1), .val (.int (4 : Int32)), .val (.int (2 : Int32)), .val (.int (2 : Int32)), .unset, .unset] [(.int (2 : Int32))])) _
            exact k
          obtain ⟨T622, h622, kn622, X622, e622, E622, A622, st622⟩ := newP X0 hx hZ (hw _ (List.mem_of_getElem? (i := 8) rfl)) e0 (g := (mkF m 21 #[.val (.ref a1), .val (.int (4 : Int32)), .val (.int (2 : Int32)), .val (.int (2 : Int32)), .unset, .unset] [(.int (2 : Int32))])) rfl (hb hby d3_21) rfl (by decide) (cap := 2) (by decide) (by decide) (by decide) (by decide)
          obtain ⟨b622, g622⟩ : ∃ z, z = h0.size := ⟨_, rfl⟩
          rw [← g622] at A622 st622
          have ne_a1_b622 : a1 ≠ b622 := Nat.ne_of_lt (Nat.lt_of_lt_of_le V1.lt (Nat.le_of_eq g622.symm))
          have g_b622 : n0 ≤ b622 := Nat.le_trans Z0 (Nat.le_of_eq g622.symm)
          have sz_b622 : h0.size ≤ b622 := Nat.le_trans KP0.1 (Nat.le_of_eq g622.symm)
          have f623 := V1.ext E622
          have Z624 : n0 ≤ h622.size := Nat.le_trans Z0 E622.1
          have KP625 : Keep h0 h622 [] := KP0.ext E622
          have K626 : ∀ t, Steps p.tables e below (T622.setTop (mkF m 23 #[.val (.ref a1), .val (.int (4 : Int32)), .val (.int (2 : Int32)), .val (.int (2 : Int32)), .unset, .unset] [(.ref b622)])) t → Steps p.tables e below G t := fun t k => K621 t (st622 t k)
          have V622 : Arv Z h622 b622 kn622 .int (2 : Int32) [(.int (0 : Int32)), (.int (0 : Int32))] (.int (0 : Int32)) := (Arv.new A622 (by decide)).pad (pad_rep [] (.int (0 : Int32)) 2)
          have K627 : ∀ t, Steps p.tables e below (T622.setTop (mkF m 42 #[.val (.ref a1), .val (.int (4 : Int32)), .val (.int (2 : Int32)), .val (.ref b622), .val (.int (4 : Int32)), .val (.int (1 : Int32))] [(.int (4 : Int32)), (.int (1 : Int32)), (.ref b622)])) t → Steps p.tables e below G t := by
            intro t k
            refine K626 t ?_
            show Steps p.tables e below (T622.setTop (mkF m 23 #[.val (.ref a1), .val (.int (4 : Int32)), .val (.int (2 : Int32)), .val (.int (2 : Int32)), .unset, .unset] [(.ref b622)])) _
            refine XS.astoreN X622.here hx rfl (hb hby d3_23) rfl rfl (l' := #[.val (.ref a1), .val (.int (4 : Int32)), .val (.int (2 : Int32)), .val (.ref b622), .unset, .unset]) rfl ?_
            refine XS.iloadN X622.here hx rfl (hb hby d3_24) rfl ?_
            refine XS.istore X622.here hx rfl (hb hby d3_25) rfl (l' := #[.val (.ref a1), .val (.int (4 : Int32)), .val (.int (2 : Int32)), .val (.ref b622), .val (.int (4 : Int32)), .unset]) rfl ?_
            refine XS.iloadN X622.here hx rfl (hb hby d3_27) rfl ?_
            show Steps p.tables e below (T622.setTop (mkF m 28 #[.val (.ref a1), .val (.int (4 : Int32)), .val (.int (2 : Int32)), .val (.ref b622), .val (.int (4 : Int32)), .unset] [(.int (2 : Int32))])) _
            refine XS.iconst X622.here hx rfl (hb hby d3_28) ?_
            refine XS.isub X622.here hx rfl (hb hby d3_29) rfl ?_
            refine XS.istore X622.here hx rfl (hb hby d3_30) rfl (l' := #[.val (.ref a1), .val (.int (4 : Int32)), .val (.int (2 : Int32)), .val (.ref b622), .val (.int (4 : Int32)), .val (.int (1 : Int32))]) rfl ?_
            refine XS.iload X622.here hx rfl (hb hby d3_32) rfl ?_
            show Steps p.tables e below (T622.setTop (mkF m 34 #[.val (.ref a1), .val (.int (4 : Int32)), .val (.int (2 : Int32)), .val (.ref b622), .val (.int (4 : Int32)), .val (.int (1 : Int32))] [(.int (1 : Int32))])) _
            refine XS.ifNo X622.here hx rfl (hb hby d3_34) rfl ((if0 _ _).trans (flt (by decide)).1) ?_
            refine XS.aloadN X622.here hx rfl (hb hby d3_37) rfl rfl ?_
            refine XS.iload X622.here hx rfl (hb hby d3_38) rfl ?_
            refine XS.iload X622.here hx rfl (hb hby d3_40) rfl ?_
            show Steps p.tables e below (T622.setTop (mkF m 42 #[.val (.ref a1), .val (.int (4 : Int32)), .val (.int (2 : Int32)), .val (.ref b622), .val (.int (4 : Int32)), .val (.int (1 : Int32))] [(.int (4 : Int32)), (.int (1 : Int32)), (.ref b622)])) _
            exact k
          obtain ⟨cl628, Ar628, qc628, S628, M628, Ha628, Ga628⟩ := id V622
          have hin628 : ¬ ((1 : Int32) < 0 ∨ cl628.slots.size ≤ ((1 : Int32)).toNatClampNeg) := inb_of S628 ⟨by decide, by decide⟩
          obtain ⟨T628, h628, X628, e628, W628, st628⟩ := stI X622 hx hZ e622 Ar628 (j := (1 : Int32)) hin628 (g := (mkF m 42 #[.val (.ref a1), .val (.int (4 : Int32)), .val (.int (2 : Int32)), .val (.ref b622), .val (.int (4 : Int32)), .val (.int (1 : Int32))] [(.int (4 : Int32)), (.int (1 : Int32)), (.ref b622)])) rfl rfl (hb hby d3_42)
          have V628 : Arv Z h628 b622 kn622 .int (2 : Int32) [(.int (0 : Int32)), (.int (4 : Int32))] (.int (0 : Int32)) := Arv.set Ar628 qc628 S628 M628 Ha628 Ga628 rfl W628 1 rfl (Nat.le_of_ble_eq_true rfl)
          have K629 : ∀ t, Steps p.tables e below (T628.setTop (mkF m 43 #[.val (.ref a1), .val (.int (4 : Int32)), .val (.int (2 : Int32)), .val (.ref b622), .val (.int (4 : Int32)), .val (.int (1 : Int32))] [])) t → Steps p.tables e below G t := fun t k => K627 t (st628 t k)
          have f630 := f623.other W628 ne_a1_b622
          have Z631 : n0 ≤ h628.size := Nat.le_trans Z624 (Keep.of_wr W628).1
          have KP632 : Keep h0 h628 [] := KP625.wr W628 (Or.inr sz_b622)
          have N633 := Fr.snoc X628 N0 g_b622
          have K634 : ∀ t, Steps p.tables e below (T628.setTop (mkF m 46 #[.val (.ref a1), .val (.int (4 : Int32)), .val (.int (2 : Int32)), .val (.ref b622), .val (.int (4 : Int32)), .val (.int (1 : Int32))] [(.int (4 : Int32)), (.ref a1)])) t → Steps p.tables e below G t := by
            intro t k
            refine K629 t ?_
            show Steps p.tables e below (T628.setTop (mkF m 43 #[.val (.ref a1), .val (.int (4 : Int32)), .val (.int (2 : Int32)), .val (.ref b622), .val (.int (4 : Int32)), .val (.int (1 : Int32))] [])) _
            refine XS.aloadN X628.here hx rfl (hb hby d3_43) rfl rfl ?_
            refine XS.iload X628.here hx rfl (hb hby d3_44) rfl ?_
            show Steps p.tables e below (T628.setTop (mkF m 46 #[.val (.ref a1), .val (.int (4 : Int32)), .val (.int (2 : Int32)), .val (.ref b622), .val (.int (4 : Int32)), .val (.int (1 : Int32))] [(.int (4 : Int32)), (.ref a1)])) _
            exact k
          obtain ⟨cl635, Ar635, qc635, S635, M635, Ha635, Ga635⟩ := id f630
          have hin635 : ¬ ((4 : Int32) < 0 ∨ cl635.slots.size ≤ ((4 : Int32)).toNatClampNeg) := inb_of S635 ⟨by decide, by decide⟩
          have hat635 : cl635.slots[((4 : Int32)).toNatClampNeg]? = some (.int (2 : Int32)) := Ha635.at hin635 rfl
          have K636 : ∀ t, Steps p.tables e below (T628.setTop (mkF m 47 #[.val (.ref a1), .val (.int (4 : Int32)), .val (.int (2 : Int32)), .val (.ref b622), .val (.int (4 : Int32)), .val (.int (1 : Int32))] [(.int (2 : Int32))])) t → Steps p.tables e below G t := fun t k => K634 t (X628.iaload hx (j := (4 : Int32)) (v := (.int (2 : Int32))) (by rw [e628]; exact Ar635.1) (State.isArrayOf_alike hZ.alike Ar635.2.1) Ar635.2.2 hin635 hat635 (g := (mkF m 46 #[.val (.ref a1), .val (.int (4 : Int32)), .val (.int (2 : Int32)), .val (.ref b622), .val (.int (4 : Int32)), .val (.int (1 : Int32))] [(.int (4 : Int32)), (.ref a1)])) rfl rfl (hb hby d3_46) _ k)
          have K637 : ∀ t, Steps p.tables e below (T628.setTop (mkF m 42 #[.val (.ref a1), .val (.int (4 : Int32)), .val (.int (2 : Int32)), .val (.ref b622), .val (.int (2 : Int32)), .val (.int (0 : Int32))] [(.int (2 : Int32)), (.int (0 : Int32)), (.ref b622)])) t → Steps p.tables e below G t := by
            intro t k
            refine K636 t ?_
            show Steps p.tables e below (T628.setTop (mkF m 47 #[.val (.ref a1), .val (.int (4 : Int32)), .val (.int (2 : Int32)), .val (.ref b622), .val (.int (4 : Int32)), .val (.int (1 : Int32))] [(.int (2 : Int32))])) _
            refine XS.istore X628.here hx rfl (hb hby d3_47) rfl (l' := #[.val (.ref a1), .val (.int (4 : Int32)), .val (.int (2 : Int32)), .val (.ref b622), .val (.int (2 : Int32)), .val (.int (1 : Int32))]) rfl ?_
            refine XS.iinc X628.here hx rfl (hb hby d3_49) rfl (l' := #[.val (.ref a1), .val (.int (4 : Int32)), .val (.int (2 : Int32)), .val (.ref b622), .val (.int (2 : Int32)), .val (.int (0 : Int32))]) rfl ?_
            refine XS.goto X628.here hx rfl (pc0 := 52) (pc' := 32) rfl (hb hby d3_52) (by decide) (by decide) ?_
            refine XS.iload X628.here hx rfl (hb hby d3_32) rfl ?_
            show Steps p.tables e below (T628.setTop (mkF m 34 #[.val (.ref a1), .val (.int (4 : Int32)), .val (.int (2 : Int32)), .val (.ref b622), .val (.int (2 : Int32)), .val (.int (0 : Int32))] [(.int (0 : Int32))])) _
            refine XS.ifNo X628.here hx rfl (hb hby d3_34) rfl ((if0 _ _).trans (flt (by decide)).1) ?_
            refine XS.aloadN X628.here hx rfl (hb hby d3_37) rfl rfl ?_
            refine XS.iload X628.here hx rfl (hb hby d3_38) rfl ?_
            refine XS.iload X628.here hx rfl (hb hby d3_40) rfl ?_
            show Steps p.tables e below (T628.setTop (mkF m 42 #[.val (.ref a1), .val (.int (4 : Int32)), .val (.int (2 : Int32)), .val (.ref b622), .val (.int (2 : Int32)), .val (.int (0 : Int32))] [(.int (2 : Int32)), (.int (0 : Int32)), (.ref b622)])) _
            exact k
          obtain ⟨cl638, Ar638, qc638, S638, M638, Ha638, Ga638⟩ := id V628
          have hin638 : ¬ ((0 : Int32) < 0 ∨ cl638.slots.size ≤ ((0 : Int32)).toNatClampNeg) := inb_of S638 ⟨by decide, by decide⟩
          obtain ⟨T638, h638, X638, e638, W638, st638⟩ := stI X628 hx hZ e628 Ar638 (j := (0 : Int32)) hin638 (g := (mkF m 42 #[.val (.ref a1), .val (.int (4 : Int32)), .val (.int (2 : Int32)), .val (.ref b622), .val (.int (2 : Int32)), .val (.int (0 : Int32))] [(.int (2 : Int32)), (.int (0 : Int32)), (.ref b622)])) rfl rfl (hb hby d3_42)
          have V638 : Arv Z h638 b622 kn622 .int (2 : Int32) [(.int (2 : Int32)), (.int (4 : Int32))] (.int (0 : Int32)) := Arv.set Ar638 qc638 S638 M638 Ha638 Ga638 rfl W638 0 rfl (Nat.le_of_ble_eq_true rfl)
          have K639 : ∀ t, Steps p.tables e below (T638.setTop (mkF m 43 #[.val (.ref a1), .val (.int (4 : Int32)), .val (.int (2 : Int32)), .val (.ref b622), .val (.int (2 : Int32)), .val (.int (0 : Int32))] [])) t → Steps p.tables e below G t := fun t k => K637 t (st638 t k)
          have f640 := f630.other W638 ne_a1_b622
          have Z641 : n0 ≤ h638.size := Nat.le_trans Z631 (Keep.of_wr W638).1
          have KP642 : Keep h0 h638 [] := KP632.wr W638 (Or.inr sz_b622)
          have N643 := Fr.snoc X638 N633 g_b622
          have K644 : ∀ t, Steps p.tables e below (T638.setTop (mkF m 46 #[.val (.ref a1), .val (.int (4 : Int32)), .val (.int (2 : Int32)), .val (.ref b622), .val (.int (2 : Int32)), .val (.int (0 : Int32))] [(.int (2 : Int32)), (.ref a1)])) t → Steps p.tables e below G t := by
            intro t k
            refine K639 t ?_
            show Steps p.tables e below (T638.setTop (mkF m 43 #[.val (.ref a1), .val (.int (4 : Int32)), .val (.int (2 : Int32)), .val (.ref b622), .val (.int (2 : Int32)), .val (.int (0 : Int32))] [])) _
            refine XS.aloadN X638.here hx rfl (hb hby d3_43) rfl rfl ?_
            refine XS.iload X638.here hx rfl (hb hby d3_44) rfl ?_
            show Steps p.tables e below (T638.setTop (mkF m 46 #[.val (.ref a1), .val (.int (4 : Int32)), .val (.int (2 : Int32)), .val (.ref b622), .val (.int (2 : Int32)), .val (.int (0 : Int32))] [(.int (2 : Int32)), (.ref a1)])) _
            exact k
          obtain ⟨cl645, Ar645, qc645, S645, M645, Ha645, Ga645⟩ := id f640
          have hin645 : ¬ ((2 : Int32) < 0 ∨ cl645.slots.size ≤ ((2 : Int32)).toNatClampNeg) := inb_of S645 ⟨by decide, by decide⟩
          have hat645 : cl645.slots[((2 : Int32)).toNatClampNeg]? = some (.int q2) := Ha645.at hin645 rfl
          have K646 : ∀ t, Steps p.tables e below (T638.setTop (mkF m 47 #[.val (.ref a1), .val (.int (4 : Int32)), .val (.int (2 : Int32)), .val (.ref b622), .val (.int (2 : Int32)), .val (.int (0 : Int32))] [(.int q2)])) t → Steps p.tables e below G t := fun t k => K644 t (X638.iaload hx (j := (2 : Int32)) (v := (.int q2)) (by rw [e638]; exact Ar645.1) (State.isArrayOf_alike hZ.alike Ar645.2.1) Ar645.2.2 hin645 hat645 (g := (mkF m 46 #[.val (.ref a1), .val (.int (4 : Int32)), .val (.int (2 : Int32)), .val (.ref b622), .val (.int (2 : Int32)), .val (.int (0 : Int32))] [(.int (2 : Int32)), (.ref a1)])) rfl rfl (hb hby d3_46) _ k)
          obtain ⟨fs, hr, hrun, hended, hW, hsame⟩ := X638.leave (v := some (.ref b622)) (fun h => by rw [Bd.returns] at h; cases h)
          have KF := K646
          rw [hG] at KF
          refine ⟨_, _, KF _ ?_, hrun, hended, _, _, rfl, ?_, ⟨_, rfl⟩, hW, hsame.mono (by decide) (by decide)⟩
          · show Steps p.tables e below (T638.setTop (mkF m 47 #[.val (.ref a1), .val (.int (4 : Int32)), .val (.int (2 : Int32)), .val (.ref b622), .val (.int (2 : Int32)), .val (.int (0 : Int32))] [(.int q2)])) _
            refine XS.istore X638.here hx rfl (hb hby d3_47) rfl (l' := #[.val (.ref a1), .val (.int (4 : Int32)), .val (.int (2 : Int32)), .val (.ref b622), .val (.int q2), .val (.int (0 : Int32))]) rfl ?_
            refine XS.iinc X638.here hx rfl (hb hby d3_49) rfl (l' := #[.val (.ref a1), .val (.int (4 : Int32)), .val (.int (2 : Int32)), .val (.ref b622), .val (.int q2), .val (.int (-1 : Int32))]) rfl ?_
            refine XS.goto X638.here hx rfl (pc0 := 52) (pc' := 32) rfl (hb hby d3_52) (by decide) (by decide) ?_
            refine XS.iload X638.here hx rfl (hb hby d3_32) rfl ?_
            show Steps p.tables e below (T638.setTop (mkF m 34 #[.val (.ref a1), .val (.int (4 : Int32)), .val (.int (2 : Int32)), .val (.ref b622), .val (.int q2), .val (.int (-1 : Int32))] [(.int (-1 : Int32))])) _
            refine XS.ifYes X638.here hx rfl (pc0 := 34) (pc' := 55) rfl (hb hby d3_34) rfl ((if0 _ _).trans (tlt (by decide)).1) (by decide) (by decide) ?_
            refine XS.aloadN X638.here hx rfl (hb hby d3_55) rfl rfl ?_
            show Steps p.tables e below (T638.setTop (mkF m 56 #[.val (.ref a1), .val (.int (4 : Int32)), .val (.int (2 : Int32)), .val (.ref b622), .val (.int q2), .val (.int (-1 : Int32))] [(.ref b622)])) _
            exact own_retA X638 hx Bd.returns rfl rfl rfl (hb hby d3_56) hr
          · show Q3 Z (4 : Int32) [(.int q0), (.int q1), (.int q2), (.int q3), (.int (2 : Int32))] h0 n0 _ T638.heap _
            rw [e638]
            exact ⟨_, _, _, _, rfl, N643, KP642, sz_b622, V638, ⟨by decide, by decide⟩, ⟨by decide, by decide⟩, rfl, Or.inr ⟨2, q2, 0, by decide, rfl, ⟨by decide, by decide⟩, rfl, Or.inl ⟨rfl, hc620⟩⟩, Or.inr ⟨4, 2, 2, by decide, rfl, ⟨by decide, by decide⟩, rfl, Or.inr ⟨by decide, ⟨by decide, by decide⟩, rfl, rfl⟩⟩, Or.inl (by decide), Or.inl (by decide), Or.inl (by decide)⟩
        · have K647 : ∀ t, Steps p.tables e below (s₁.setTop (mkF m 15 #[.val (.ref a1), .val (.int (4 : Int32)), .val (.int (3 : Int32)), .val (.int (2 : Int32)), .unset, .unset] [(.int (2 : Int32)), (.ref a1)])) t → Steps p.tables e below G t := by
            intro t k
            refine K619 t ?_
            show Steps p.tables e below (s₁.setTop (mkF m 7 #[.val (.ref a1), .val (.int (4 : Int32)), .val (.int (2 : Int32)), .val (.int (2 : Int32)), .unset, .unset] [(.int q2)])) _
            refine XS.ifNo X0.here hx rfl (hb hby d3_7) rfl ((if0 _ _).trans (flt hc620).1) ?_
            refine XS.iinc X0.here hx rfl (hb hby d3_10) rfl (l' := #[.val (.ref a1), .val (.int (4 : Int32)), .val (.int (3 : Int32)), .val (.int (2 : Int32)), .unset, .unset]) rfl ?_
            refine XS.aloadN X0.here hx rfl (hb hby d3_13) rfl rfl ?_
            refine XS.iloadN X0.here hx rfl (hb hby d3_14) rfl ?_
            show Steps p.tables e below (s₁.setTop (mkF m 15 #[.val (.ref a1), .val (.int (4 : Int32)), .val (.int (3 : Int32)), .val (.int (2 : Int32)), .unset, .unset] [(.int (2 : Int32)), (.ref a1)])) _
            exact k
          obtain ⟨cl648, Ar648, qc648, S648, M648, Ha648, Ga648⟩ := id V1
          have hin648 : ¬ ((2 : Int32) < 0 ∨ cl648.slots.size ≤ ((2 : Int32)).toNatClampNeg) := inb_of S648 ⟨by decide, by decide⟩
          have hat648 : cl648.slots[((2 : Int32)).toNatClampNeg]? = some (.int q2) := Ha648.at hin648 rfl
          have K649 : ∀ t, Steps p.tables e below (s₁.setTop (mkF m 16 #[.val (.ref a1), .val (.int (4 : Int32)), .val (.int (3 : Int32)), .val (.int (2 : Int32)), .unset, .unset] [(.int q2)])) t → Steps p.tables e below G t := fun t k => K647 t (X0.iaload hx (j := (2 : Int32)) (v := (.int q2)) (by rw [e0]; exact Ar648.1) (State.isArrayOf_alike hZ.alike Ar648.2.1) Ar648.2.2 hin648 hat648 (g := (mkF m 15 #[.val (.ref a1), .val (.int (4 : Int32)), .val (.int (3 : Int32)), .val (.int (2 : Int32)), .unset, .unset] [(.int (2 : Int32)), (.ref a1)])) rfl rfl (hb hby d3_15) _ k)
          have K650 : ∀ t, Steps p.tables e below (s₁.setTop (mkF m 4 #[.val (.ref a1), .val (.int (4 : Int32)), .val (.int (3 : Int32)), .val (.int q2), .unset, .unset] [])) t → Steps p.tables e below G t := by
            intro t k
            refine K649 t ?_
            show Steps p.tables e below (s₁.setTop (mkF m 16 #[.val (.ref a1), .val (.int (4 : Int32)), .val (.int (3 : Int32)), .val (.int (2 : Int32)), .unset, .unset] [(.int q2)])) _
            refine XS.istoreN X0.here hx rfl (hb hby d3_16) rfl (l' := #[.val (.ref a1), .val (.int (4 : Int32)), .val (.int (3 : Int32)), .val (.int q2), .unset, .unset]) rfl ?_
            refine XS.goto X0.here hx rfl (pc0 := 17) (pc' := 4) rfl (hb hby d3_17) (by decide) (by decide) ?_
            show Steps p.tables e below (s₁.setTop (mkF m 4 #[.val (.ref a1), .val (.int (4 : Int32)), .val (.int (3 : Int32)), .val (.int q2), .unset, .unset] [])) _
            exact k
          rcases own_lt2 hc620 hq2 with rfl | rfl
          · have K651 : ∀ t, Steps p.tables e below (s₁.setTop (mkF m 6 #[.val (.ref a1), .val (.int (4 : Int32)), .val (.int (3 : Int32)), .val (.int (0 : Int32)), .unset, .unset] [(.int (0 : Int32)), (.ref a1)])) t → Steps p.tables e below G t := by
              intro t k
              refine K650 t ?_
              show Steps p.tables e below (s₁.setTop (mkF m 4 #[.val (.ref a1), .val (.int (4 : Int32)), .val (.int (3 : Int32)), .val (.int (0 : Int32)), .unset, .unset] [])) _
              refine XS.aloadN X0.here hx rfl (hb hby d3_4) rfl rfl ?_
              refine XS.iloadN X0.here hx rfl (hb hby d3_5) rfl ?_
              show Steps p.tables e below (s₁.setTop (mkF m 6 #[.val (.ref a1), .val (.int (4 : Int32)), .val (.int (3 : Int32)), .val (.int (0 : Int32)), .unset, .unset] [(.int (0 : Int32)), (.ref a1)])) _
              exact k
            obtain ⟨cl652, Ar652, qc652, S652, M652, Ha652, Ga652⟩ := id V1
            have hin652 : ¬ ((0 : Int32) < 0 ∨ cl652.slots.size ≤ ((0 : Int32)).toNatClampNeg) := inb_of S652 ⟨by decide, by decide⟩
            have hat652 : cl652.slots[((0 : Int32)).toNatClampNeg]? = some (.int q0) := Ha652.at hin652 rfl
            have K653 : ∀ t, Steps p.tables e below (s₁.setTop (mkF m 7 #[.val (.ref a1), .val (.int (4 : Int32)), .val (.int (3 : Int32)), .val (.int (0 : Int32)), .unset, .unset] [(.int q0)])) t → Steps p.tables e below G t := fun t k => K651 t (X0.iaload hx (j := (0 : Int32)) (v := (.int q0)) (by rw [e0]; exact Ar652.1) (State.isArrayOf_alike hZ.alike Ar652.2.1) Ar652.2.2 hin652 hat652 (g := (mkF m 6 #[.val (.ref a1), .val (.int (4 : Int32)), .val (.int (3 : Int32)), .val (.int (0 : Int32)), .unset, .unset] [(.int (0 : Int32)), (.ref a1)])) rfl rfl (hb hby d3_6) _ k)
            have K654 : ∀ t, Steps p.tables e below (s₁.setTop (mkF m 21 #[.val (.ref a1), .val (.int (4 : Int32)), .val (.int (3 : Int32)), .val (.int (0 : Int32)), .unset, .unset] [(.int (3 : Int32))])) t → Steps p.tables e below G t := by
              intro t k
              refine K653 t ?_
              show Steps p.tables e below (s₁.setTop (mkF m 7 #[.val (.ref a1), .val (.int (4 : Int32)), .val (.int (3 : Int32)), .val (.int (0 : Int32)), .unset, .unset] [(.int q0)])) _
              refine XS.ifYes X0.here hx rfl (pc0 := 7) (pc' := 20) rfl (hb hby d3_7) rfl ((if0 _ _).trans (tlt hq0).1) (by decide) (by decide) ?_
              refine XS.iloadN X0.here hx rfl (hb hby d3_20) rfl ?_
              show Steps p.tables e below (s₁.setTop (mkF m 21 #[.val (.ref a1), .val (.int (4 : Int32)), .val (.int (3 : Int32)), .val (.int (0 : Int32)), .unset, .unset] [(.int (3 : Int32))])) _
              exact k
            obtain ⟨T655, h655, kn655, X655, e655, E655, A655, st655⟩ := newP X0 hx hZ (hw _ (List.mem_of_getElem? (i := 8) rfl)) e0 (g := (mkF m 21 #[.val (.ref a1), .val (.int (4 : Int32)), .val (.int (3 : Int32)), .val (.int (0 : Int32)), .unset, .unset] [(.int (3 : Int32))])) rfl (hb hby d3_21) rfl (by decide) (cap := 3) (by decide) (by decide) (by decide) (by decide)
            obtain ⟨b655, g655⟩ : ∃ z, z = h0.size := ⟨_, rfl⟩
            rw [← g655] at A655 st655
            have ne_a1_b655 : a1 ≠ b655 := Nat.ne_of_lt (Nat.lt_of_lt_of_le V1.lt (Nat.le_of_eq g655.symm))
            have g_b655 : n0 ≤ b655 := Nat.le_trans Z0 (Nat.le_of_eq g655.symm)
            have sz_b655 : h0.size ≤ b655 := Nat.le_trans KP0.1 (Nat.le_of_eq g655.symm)
            have f656 := V1.ext E655
            have Z657 : n0 ≤ h655.size := Nat.le_trans Z0 E655.1
            have KP658 : Keep h0 h655 [] := KP0.ext E655
            have K659 : ∀ t, Steps p.tables e below (T655.setTop (mkF m 23 #[.val (.ref a1), .val (.int (4 : Int32)), .val (.int (3 : Int32)), .val (.int (0 : Int32)), .unset, .unset] [(.ref b655)])) t → Steps p.tables e below G t := fun t k => K654 t (st655 t k)
            have V655 : Arv Z h655 b655 kn655 .int (3 : Int32) [(.int (0 : Int32)), (.int (0 : Int32)), (.int (0 : Int32))] (.int (0 : Int32)) := (Arv.new A655 (by decide)).pad (pad_rep [] (.int (0 : Int32)) 3)
            have K660 : ∀ t, Steps p.tables e below (T655.setTop (mkF m 42 #[.val (.ref a1), .val (.int (4 : Int32)), .val (.int (3 : Int32)), .val (.ref b655), .val (.int (4 : Int32)), .val (.int (2 : Int32))] [(.int (4 : Int32)), (.int (2 : Int32)), (.ref b655)])) t → Steps p.tables e below G t := by
              intro t k
              refine K659 t ?_
              show Steps p.tables e below (T655.setTop (mkF m 23 #[.val (.ref a1), .val (.int (4 : Int32)), .val (.int (3 : Int32)), .val (.int (0 : Int32)), .unset, .unset] [(.ref b655)])) _
              refine XS.astoreN X655.here hx rfl (hb hby d3_23) rfl rfl (l' := #[.val (.ref a1), .val (.int (4 : Int32)), .val (.int (3 : Int32)), .val (.ref b655), .unset, .unset]) rfl ?_
              refine XS.iloadN X655.here hx rfl (hb hby d3_24) rfl ?_
              refine XS.istore X655.here hx rfl (hb hby d3_25) rfl (l' := #[.val (.ref a1), .val (.int (4 : Int32)), .val (.int (3 : Int32)), .val (.ref b655), .val (.int (4 : Int32)), .unset]) rfl ?_
              refine XS.iloadN X655.here hx rfl (hb hby d3_27) rfl ?_
              show Steps p.tables e below (T655.setTop (mkF m 28 #[.val (.ref a1), .val (.int (4 : Int32)), .val (.int (3 : Int32)), .val (.ref b655), .val (.int (4 : Int32)), .unset] [(.int (3 : Int32))])) _
              refine XS.iconst X655.here hx rfl (hb hby d3_28) ?_
              refine XS.isub X655.here hx rfl (hb hby d3_29) rfl ?_
              refine XS.istore X655.here hx rfl (hb hby d3_30) rfl (l' := #[.val (.ref a1), .val (.int (4 : Int32)), .val (.int (3 : Int32)), .val (.ref b655), .val (.int (4 : Int32)), .val (.int (2 : Int32))]) rfl ?_
              refine XS.iload X655.here hx rfl (hb hby d3_32) rfl ?_
              show Steps p.tables e below (T655.setTop (mkF m 34 #[.val (.ref a1), .val (.int (4 : Int32)), .val (.int (3 : Int32)), .val (.ref b655), .val (.int (4 : Int32)), .val (.int (2 : Int32))] [(.int (2 : Int32))])) _
              refine XS.ifNo X655.here hx rfl (hb hby d3_34) rfl ((if0 _ _).trans (flt (by decide)).1) ?_
              refine XS.aloadN X655.here hx rfl (hb hby d3_37) rfl rfl ?_
              refine XS.iload X655.here hx rfl (hb hby d3_38) rfl ?_
              refine XS.iload X655.here hx rfl (hb hby d3_40) rfl ?_
              show Steps p.tables e below (T655.setTop (mkF m 42 #[.val (.ref a1), .val (.int (4 : Int32)), .val (.int (3 : Int32)), .val (.ref b655), .val (.int (4 : Int32)), .val (.int (2 : Int32))] [(.int (4 : Int32)), (.int (2 : Int32)), (.ref b655)])) _
              exact k
            obtain ⟨cl661, Ar661, qc661, S661, M661, Ha661, Ga661⟩ := id V655
            have hin661 : ¬ ((2 : Int32) < 0 ∨ cl661.slots.size ≤ ((2 : Int32)).toNatClampNeg) := inb_of S661 ⟨by decide, by decide⟩
            obtain ⟨T661, h661, X661, e661, W661, st661⟩ := stI X655 hx hZ e655 Ar661 (j := (2 : Int32)) hin661 (g := (mkF m 42 #[.val (.ref a1), .val (.int (4 : Int32)), .val (.int (3 : Int32)), .val (.ref b655), .val (.int (4 : Int32)), .val (.int (2 : Int32))] [(.int (4 : Int32)), (.int (2 : Int32)), (.ref b655)])) rfl rfl (hb hby d3_42)
            have V661 : Arv Z h661 b655 kn655 .int (3 : Int32) [(.int (0 : Int32)), (.int (0 : Int32)), (.int (4 : Int32))] (.int (0 : Int32)) := Arv.set Ar661 qc661 S661 M661 Ha661 Ga661 rfl W661 2 rfl (Nat.le_of_ble_eq_true rfl)
            have K662 : ∀ t, Steps p.tables e below (T661.setTop (mkF m 43 #[.val (.ref a1), .val (.int (4 : Int32)), .val (.int (3 : Int32)), .val (.ref b655), .val (.int (4 : Int32)), .val (.int (2 : Int32))] [])) t → Steps p.tables e below G t := fun t k => K660 t (st661 t k)
            have f663 := f656.other W661 ne_a1_b655
            have Z664 : n0 ≤ h661.size := Nat.le_trans Z657 (Keep.of_wr W661).1
            have KP665 : Keep h0 h661 [] := KP658.wr W661 (Or.inr sz_b655)
            have N666 := Fr.snoc X661 N0 g_b655
            have K667 : ∀ t, Steps p.tables e below (T661.setTop (mkF m 46 #[.val (.ref a1), .val (.int (4 : Int32)), .val (.int (3 : Int32)), .val (.ref b655), .val (.int (4 : Int32)), .val (.int (2 : Int32))] [(.int (4 : Int32)), (.ref a1)])) t → Steps p.tables e below G t := by
              intro t k
              refine K662 t ?_
              show Steps p.tables e below (T661.setTop (mkF m 43 #[.val (.ref a1), .val (.int (4 : Int32)), .val (.int (3 : Int32)), .val (.ref b655), .val (.int (4 : Int32)), .val (.int (2 : Int32))] [])) _
              refine XS.aloadN X661.here hx rfl (hb hby d3_43) rfl rfl ?_
              refine XS.iload X661.here hx rfl (hb hby d3_44) rfl ?_
              show Steps p.tables e below (T661.setTop (mkF m 46 #[.val (.ref a1), .val (.int (4 : Int32)), .val (.int (3 : Int32)), .val (.ref b655), .val (.int (4 : Int32)), .val (.int (2 : Int32))] [(.int (4 : Int32)), (.ref a1)])) _
              exact k
            obtain ⟨cl668, Ar668, qc668, S668, M668, Ha668, Ga668⟩ := id f663
            have hin668 : ¬ ((4 : Int32) < 0 ∨ cl668.slots.size ≤ ((4 : Int32)).toNatClampNeg) := inb_of S668 ⟨by decide, by decide⟩
            have hat668 : cl668.slots[((4 : Int32)).toNatClampNeg]? = some (.int (2 : Int32)) := Ha668.at hin668 rfl
            have K669 : ∀ t, Steps p.tables e below (T661.setTop (mkF m 47 #[.val (.ref a1), .val (.int (4 : Int32)), .val (.int (3 : Int32)), .val (.ref b655), .val (.int (4 : Int32)), .val (.int (2 : Int32))] [(.int (2 : Int32))])) t → Steps p.tables e below G t := fun t k => K667 t (X661.iaload hx (j := (4 : Int32)) (v := (.int (2 : Int32))) (by rw [e661]; exact Ar668.1) (State.isArrayOf_alike hZ.alike Ar668.2.1) Ar668.2.2 hin668 hat668 (g := (mkF m 46 #[.val (.ref a1), .val (.int (4 : Int32)), .val (.int (3 : Int32)), .val (.ref b655), .val (.int (4 : Int32)), .val (.int (2 : Int32))] [(.int (4 : Int32)), (.ref a1)])) rfl rfl (hb hby d3_46) _ k)
            have K670 : ∀ t, Steps p.tables e below (T661.setTop (mkF m 42 #[.val (.ref a1), .val (.int (4 : Int32)), .val (.int (3 : Int32)), .val (.ref b655), .val (.int (2 : Int32)), .val (.int (1 : Int32))] [(.int (2 : Int32)), (.int (1 : Int32)), (.ref b655)])) t → Steps p.tables e below G t := by
              intro t k
              refine K669 t ?_
              show Steps p.tables e below (T661.setTop (mkF m 47 #[.val (.ref a1), .val (.int (4 : Int32)), .val (.int (3 : Int32)), .val (.ref b655), .val (.int (4 : Int32)), .val (.int (2 : Int32))] [(.int (2 : Int32))])) _
              refine XS.istore X661.here hx rfl (hb hby d3_47) rfl (l' := #[.val (.ref a1), .val (.int (4 : Int32)), .val (.int (3 : Int32)), .val (.ref b655), .val (.int (2 : Int32)), .val (.int (2 : Int32))]) rfl ?_
              refine XS.iinc X661.here hx rfl (hb hby d3_49) rfl (l' := #[.val (.ref a1), .val (.int (4 : Int32)), .val (.int (3 : Int32)), .val (.ref b655), .val (.int (2 : Int32)), .val (.int (1 : Int32))]) rfl ?_
              refine XS.goto X661.here hx rfl (pc0 := 52) (pc' := 32) rfl (hb hby d3_52) (by decide) (by decide) ?_
              refine XS.iload X661.here hx rfl (hb hby d3_32) rfl ?_
              show Steps p.tables e below (T661.setTop (mkF m 34 #[.val (.ref a1), .val (.int (4 : Int32)), .val (.int (3 : Int32)), .val (.ref b655), .val (.int (2 : Int32)), .val (.int (1 : Int32))] [(.int (1 : Int32))])) _
              refine XS.ifNo X661.here hx rfl (hb hby d3_34) rfl ((if0 _ _).trans (flt (by decide)).1) ?_
              refine XS.aloadN X661.here hx rfl (hb hby d3_37) rfl rfl ?_
              refine XS.iload X661.here hx rfl (hb hby d3_38) rfl ?_
              refine XS.iload X661.here hx rfl (hb hby d3_40) rfl ?_
              show Steps p.tables e below (T661.setTop (mkF m 42 #[.val (.ref a1), .val (.int (4 : Int32)), .val (.int (3 : Int32)), .val (.ref b655), .val (.int (2 : Int32)), .val (.int (1 : Int32))] [(.int (2 : Int32)), (.int (1 : Int32)), (.ref b655)])) _
              exact k
            obtain ⟨cl671, Ar671, qc671, S671, M671, Ha671, Ga671⟩ := id V661
            have hin671 : ¬ ((1 : Int32) < 0 ∨ cl671.slots.size ≤ ((1 : Int32)).toNatClampNeg) := inb_of S671 ⟨by decide, by decide⟩
            obtain ⟨T671, h671, X671, e671, W671, st671⟩ := stI X661 hx hZ e661 Ar671 (j := (1 : Int32)) hin671 (g := (mkF m 42 #[.val (.ref a1), .val (.int (4 : Int32)), .val (.int (3 : Int32)), .val (.ref b655), .val (.int (2 : Int32)), .val (.int (1 : Int32))] [(.int (2 : Int32)), (.int (1 : Int32)), (.ref b655)])) rfl rfl (hb hby d3_42)
            have V671 : Arv Z h671 b655 kn655 .int (3 : Int32) [(.int (0 : Int32)), (.int (2 : Int32)), (.int (4 : Int32))] (.int (0 : Int32)) := Arv.set Ar671 qc671 S671 M671 Ha671 Ga671 rfl W671 1 rfl (Nat.le_of_ble_eq_true rfl)
            have K672 : ∀ t, Steps p.tables e below (T671.setTop (mkF m 43 #[.val (.ref a1), .val (.int (4 : Int32)), .val (.int (3 : Int32)), .val (.ref b655), .val (.int (2 : Int32)), .val (.int (1 : Int32))] [])) t → Steps p.tables e below G t := fun t k => K670 t (st671 t k)
            have f673 := f663.other W671 ne_a1_b655
            have Z674 : n0 ≤ h671.size := Nat.le_trans Z664 (Keep.of_wr W671).1
            have KP675 : Keep h0 h671 [] := KP665.wr W671 (Or.inr sz_b655)
            have N676 := Fr.snoc X671 N666 g_b655
            have K677 : ∀ t, Steps p.tables e below (T671.setTop (mkF m 46 #[.val (.ref a1), .val (.int (4 : Int32)), .val (.int (3 : Int32)), .val (.ref b655), .val (.int (2 : Int32)), .val (.int (1 : Int32))] [(.int (2 : Int32)), (.ref a1)])) t → Steps p.tables e below G t := by
              intro t k
              refine K672 t ?_
              show Steps p.tables e below (T671.setTop (mkF m 43 #[.val (.ref a1), .val (.int (4 : Int32)), .val (.int (3 : Int32)), .val (.ref b655), .val (.int (2 : Int32)), .val (.int (1 : Int32))] [])) _
              refine XS.aloadN X671.here hx rfl (hb hby d3_43) rfl rfl ?_
              refine XS.iload X671.here hx rfl (hb hby d3_44) rfl ?_
              show Steps p.tables e below (T671.setTop (mkF m 46 #[.val (.ref a1), .val (.int (4 : Int32)), .val (.int (3 : Int32)), .val (.ref b655), .val (.int (2 : Int32)), .val (.int (1 : Int32))] [(.int (2 : Int32)), (.ref a1)])) _
              exact k
            obtain ⟨cl678, Ar678, qc678, S678, M678, Ha678, Ga678⟩ := id f673
            have hin678 : ¬ ((2 : Int32) < 0 ∨ cl678.slots.size ≤ ((2 : Int32)).toNatClampNeg) := inb_of S678 ⟨by decide, by decide⟩
            have hat678 : cl678.slots[((2 : Int32)).toNatClampNeg]? = some (.int (0 : Int32)) := Ha678.at hin678 rfl
            have K679 : ∀ t, Steps p.tables e below (T671.setTop (mkF m 47 #[.val (.ref a1), .val (.int (4 : Int32)), .val (.int (3 : Int32)), .val (.ref b655), .val (.int (2 : Int32)), .val (.int (1 : Int32))] [(.int (0 : Int32))])) t → Steps p.tables e below G t := fun t k => K677 t (X671.iaload hx (j := (2 : Int32)) (v := (.int (0 : Int32))) (by rw [e671]; exact Ar678.1) (State.isArrayOf_alike hZ.alike Ar678.2.1) Ar678.2.2 hin678 hat678 (g := (mkF m 46 #[.val (.ref a1), .val (.int (4 : Int32)), .val (.int (3 : Int32)), .val (.ref b655), .val (.int (2 : Int32)), .val (.int (1 : Int32))] [(.int (2 : Int32)), (.ref a1)])) rfl rfl (hb hby d3_46) _ k)
            have K680 : ∀ t, Steps p.tables e below (T671.setTop (mkF m 42 #[.val (.ref a1), .val (.int (4 : Int32)), .val (.int (3 : Int32)), .val (.ref b655), .val (.int (0 : Int32)), .val (.int (0 : Int32))] [(.int (0 : Int32)), (.int (0 : Int32)), (.ref b655)])) t → Steps p.tables e below G t := by
              intro t k
              refine K679 t ?_
              show Steps p.tables e below (T671.setTop (mkF m 47 #[.val (.ref a1), .val (.int (4 : Int32)), .val (.int (3 : Int32)), .val (.ref b655), .val (.int (2 : Int32)), .val (.int (1 : Int32))] [(.int (0 : Int32))])) _
              refine XS.istore X671.here hx rfl (hb hby d3_47) rfl (l' := #[.val (.ref a1), .val (.int (4 : Int32)), .val (.int (3 : Int32)), .val (.ref b655), .val (.int (0 : Int32)), .val (.int (1 : Int32))]) rfl ?_
              refine XS.iinc X671.here hx rfl (hb hby d3_49) rfl (l' := #[.val (.ref a1), .val (.int (4 : Int32)), .val (.int (3 : Int32)), .val (.ref b655), .val (.int (0 : Int32)), .val (.int (0 : Int32))]) rfl ?_
              refine XS.goto X671.here hx rfl (pc0 := 52) (pc' := 32) rfl (hb hby d3_52) (by decide) (by decide) ?_
              refine XS.iload X671.here hx rfl (hb hby d3_32) rfl ?_
              show Steps p.tables e below (T671.setTop (mkF m 34 #[.val (.ref a1), .val (.int (4 : Int32)), .val (.int (3 : Int32)), .val (.ref b655), .val (.int (0 : Int32)), .val (.int (0 : Int32))] [(.int (0 : Int32))])) _
              refine XS.ifNo X671.here hx rfl (hb hby d3_34) rfl ((if0 _ _).trans (flt (by decide)).1) ?_
              refine XS.aloadN X671.here hx rfl (hb hby d3_37) rfl rfl ?_
              refine XS.iload X671.here hx rfl (hb hby d3_38) rfl ?_
              refine XS.iload X671.here hx rfl (hb hby d3_40) rfl ?_
              show Steps p.tables e below (T671.setTop (mkF m 42 #[.val (.ref a1), .val (.int (4 : Int32)), .val (.int (3 : Int32)), .val (.ref b655), .val (.int (0 : Int32)), .val (.int (0 : Int32))] [(.int (0 : Int32)), (.int (0 : Int32)), (.ref b655)])) _
              exact k
            obtain ⟨cl681, Ar681, qc681, S681, M681, Ha681, Ga681⟩ := id V671
            have hin681 : ¬ ((0 : Int32) < 0 ∨ cl681.slots.size ≤ ((0 : Int32)).toNatClampNeg) := inb_of S681 ⟨by decide, by decide⟩
            obtain ⟨T681, h681, X681, e681, W681, st681⟩ := stI X671 hx hZ e671 Ar681 (j := (0 : Int32)) hin681 (g := (mkF m 42 #[.val (.ref a1), .val (.int (4 : Int32)), .val (.int (3 : Int32)), .val (.ref b655), .val (.int (0 : Int32)), .val (.int (0 : Int32))] [(.int (0 : Int32)), (.int (0 : Int32)), (.ref b655)])) rfl rfl (hb hby d3_42)
            have V681 : Arv Z h681 b655 kn655 .int (3 : Int32) [(.int (0 : Int32)), (.int (2 : Int32)), (.int (4 : Int32))] (.int (0 : Int32)) := Arv.set Ar681 qc681 S681 M681 Ha681 Ga681 rfl W681 0 rfl (Nat.le_of_ble_eq_true rfl)
            have K682 : ∀ t, Steps p.tables e below (T681.setTop (mkF m 43 #[.val (.ref a1), .val (.int (4 : Int32)), .val (.int (3 : Int32)), .val (.ref b655), .val (.int (0 : Int32)), .val (.int (0 : Int32))] [])) t → Steps p.tables e below G t := fun t k => K680 t (st681 t k)
            have f683 := f673.other W681 ne_a1_b655
            have Z684 : n0 ≤ h681.size := Nat.le_trans Z674 (Keep.of_wr W681).1
            have KP685 : Keep h0 h681 [] := KP675.wr W681 (Or.inr sz_b655)
            have N686 := Fr.snoc X681 N676 g_b655
            have K687 : ∀ t, Steps p.tables e below (T681.setTop (mkF m 46 #[.val (.ref a1), .val (.int (4 : Int32)), .val (.int (3 : Int32)), .val (.ref b655), .val (.int (0 : Int32)), .val (.int (0 : Int32))] [(.int (0 : Int32)), (.ref a1)])) t → Steps p.tables e below G t := by
              intro t k
              refine K682 t ?_
              show Steps p.tables e below (T681.setTop (mkF m 43 #[.val (.ref a1), .val (.int (4 : Int32)), .val (.int (3 : Int32)), .val (.ref b655), .val (.int (0 : Int32)), .val (.int (0 : Int32))] [])) _
              refine XS.aloadN X681.here hx rfl (hb hby d3_43) rfl rfl ?_
              refine XS.iload X681.here hx rfl (hb hby d3_44) rfl ?_
              show Steps p.tables e below (T681.setTop (mkF m 46 #[.val (.ref a1), .val (.int (4 : Int32)), .val (.int (3 : Int32)), .val (.ref b655), .val (.int (0 : Int32)), .val (.int (0 : Int32))] [(.int (0 : Int32)), (.ref a1)])) _
              exact k
            obtain ⟨cl688, Ar688, qc688, S688, M688, Ha688, Ga688⟩ := id f683
            have hin688 : ¬ ((0 : Int32) < 0 ∨ cl688.slots.size ≤ ((0 : Int32)).toNatClampNeg) := inb_of S688 ⟨by decide, by decide⟩
            have hat688 : cl688.slots[((0 : Int32)).toNatClampNeg]? = some (.int q0) := Ha688.at hin688 rfl
            have K689 : ∀ t, Steps p.tables e below (T681.setTop (mkF m 47 #[.val (.ref a1), .val (.int (4 : Int32)), .val (.int (3 : Int32)), .val (.ref b655), .val (.int (0 : Int32)), .val (.int (0 : Int32))] [(.int q0)])) t → Steps p.tables e below G t := fun t k => K687 t (X681.iaload hx (j := (0 : Int32)) (v := (.int q0)) (by rw [e681]; exact Ar688.1) (State.isArrayOf_alike hZ.alike Ar688.2.1) Ar688.2.2 hin688 hat688 (g := (mkF m 46 #[.val (.ref a1), .val (.int (4 : Int32)), .val (.int (3 : Int32)), .val (.ref b655), .val (.int (0 : Int32)), .val (.int (0 : Int32))] [(.int (0 : Int32)), (.ref a1)])) rfl rfl (hb hby d3_46) _ k)
            obtain ⟨fs, hr, hrun, hended, hW, hsame⟩ := X681.leave (v := some (.ref b655)) (fun h => by rw [Bd.returns] at h; cases h)
            have KF := K689
            rw [hG] at KF
            refine ⟨_, _, KF _ ?_, hrun, hended, _, _, rfl, ?_, ⟨_, rfl⟩, hW, hsame.mono (by decide) (by decide)⟩
            · show Steps p.tables e below (T681.setTop (mkF m 47 #[.val (.ref a1), .val (.int (4 : Int32)), .val (.int (3 : Int32)), .val (.ref b655), .val (.int (0 : Int32)), .val (.int (0 : Int32))] [(.int q0)])) _
              refine XS.istore X681.here hx rfl (hb hby d3_47) rfl (l' := #[.val (.ref a1), .val (.int (4 : Int32)), .val (.int (3 : Int32)), .val (.ref b655), .val (.int q0), .val (.int (0 : Int32))]) rfl ?_
              refine XS.iinc X681.here hx rfl (hb hby d3_49) rfl (l' := #[.val (.ref a1), .val (.int (4 : Int32)), .val (.int (3 : Int32)), .val (.ref b655), .val (.int q0), .val (.int (-1 : Int32))]) rfl ?_
              refine XS.goto X681.here hx rfl (pc0 := 52) (pc' := 32) rfl (hb hby d3_52) (by decide) (by decide) ?_
              refine XS.iload X681.here hx rfl (hb hby d3_32) rfl ?_
              show Steps p.tables e below (T681.setTop (mkF m 34 #[.val (.ref a1), .val (.int (4 : Int32)), .val (.int (3 : Int32)), .val (.ref b655), .val (.int q0), .val (.int (-1 : Int32))] [(.int (-1 : Int32))])) _
              refine XS.ifYes X681.here hx rfl (pc0 := 34) (pc' := 55) rfl (hb hby d3_34) rfl ((if0 _ _).trans (tlt (by decide)).1) (by decide) (by decide) ?_
              refine XS.aloadN X681.here hx rfl (hb hby d3_55) rfl rfl ?_
              show Steps p.tables e below (T681.setTop (mkF m 56 #[.val (.ref a1), .val (.int (4 : Int32)), .val (.int (3 : Int32)), .val (.ref b655), .val (.int q0), .val (.int (-1 : Int32))] [(.ref b655)])) _
              exact own_retA X681 hx Bd.returns rfl rfl rfl (hb hby d3_56) hr
            · show Q3 Z (4 : Int32) [(.int q0), (.int q1), (.int (0 : Int32)), (.int q3), (.int (2 : Int32))] h0 n0 _ T681.heap _
              rw [e681]
              exact ⟨_, _, _, _, rfl, N686, KP685, sz_b655, V681, ⟨by decide, by decide⟩, ⟨by decide, by decide⟩, rfl, Or.inr ⟨0, q0, 0, by decide, rfl, ⟨by decide, by decide⟩, rfl, Or.inl ⟨rfl, hq0⟩⟩, Or.inr ⟨2, 0, 0, by decide, rfl, ⟨by decide, by decide⟩, rfl, Or.inr ⟨by decide, ⟨by decide, by decide⟩, rfl, rfl⟩⟩, Or.inr ⟨4, 2, 2, by decide, rfl, ⟨by decide, by decide⟩, rfl, Or.inr ⟨by decide, ⟨by decide, by decide⟩, rfl, rfl⟩⟩, Or.inl (by decide), Or.inl (by decide)⟩
          · have K690 : ∀ t, Steps p.tables e below (s₁.setTop (mkF m 6 #[.val (.ref a1), .val (.int (4 : Int32)), .val (.int (3 : Int32)), .val (.int (1 : Int32)), .unset, .unset] [(.int (1 : Int32)), (.ref a1)])) t → Steps p.tables e below G t := by
              intro t k
              refine K650 t ?_
              show Steps p.tables e below (s₁.setTop (mkF m 4 #[.val (.ref a1), .val (.int (4 : Int32)), .val (.int (3 : Int32)), .val (.int (1 : Int32)), .unset, .unset] [])) _
              refine XS.aloadN X0.here hx rfl (hb hby d3_4) rfl rfl ?_
              refine XS.iloadN X0.here hx rfl (hb hby d3_5) rfl ?_
              show Steps p.tables e below (s₁.setTop (mkF m 6 #[.val (.ref a1), .val (.int (4 : Int32)), .val (.int (3 : Int32)), .val (.int (1 : Int32)), .unset, .unset] [(.int (1 : Int32)), (.ref a1)])) _
              exact k
            obtain ⟨cl691, Ar691, qc691, S691, M691, Ha691, Ga691⟩ := id V1
            have hin691 : ¬ ((1 : Int32) < 0 ∨ cl691.slots.size ≤ ((1 : Int32)).toNatClampNeg) := inb_of S691 ⟨by decide, by decide⟩
            have hat691 : cl691.slots[((1 : Int32)).toNatClampNeg]? = some (.int q1) := Ha691.at hin691 rfl
            have K692 : ∀ t, Steps p.tables e below (s₁.setTop (mkF m 7 #[.val (.ref a1), .val (.int (4 : Int32)), .val (.int (3 : Int32)), .val (.int (1 : Int32)), .unset, .unset] [(.int q1)])) t → Steps p.tables e below G t := fun t k => K690 t (X0.iaload hx (j := (1 : Int32)) (v := (.int q1)) (by rw [e0]; exact Ar691.1) (State.isArrayOf_alike hZ.alike Ar691.2.1) Ar691.2.2 hin691 hat691 (g := (mkF m 6 #[.val (.ref a1), .val (.int (4 : Int32)), .val (.int (3 : Int32)), .val (.int (1 : Int32)), .unset, .unset] [(.int (1 : Int32)), (.ref a1)])) rfl rfl (hb hby d3_6) _ k)
            by_cases hc693 : q1 < (0 : Int32)
            · have K694 : ∀ t, Steps p.tables e below (s₁.setTop (mkF m 21 #[.val (.ref a1), .val (.int (4 : Int32)), .val (.int (3 : Int32)), .val (.int (1 : Int32)), .unset, .unset] [(.int (3 : Int32))])) t → Steps p.tables e below G t := by
                intro t k
                refine K692 t ?_
                show Steps p.tables e below (s₁.setTop (mkF m 7 #[.val (.ref a1), .val (.int (4 : Int32)), .val (.int (3 : Int32)), .val (.int (1 : Int32)), .unset, .unset] [(.int q1)])) _
                refine XS.ifYes X0.here hx rfl (pc0 := 7) (pc' := 20) rfl (hb hby d3_7) rfl ((if0 _ _).trans (tlt hc693).1) (by decide) (by decide) ?_
                refine XS.iloadN X0.here hx rfl (hb hby d3_20) rfl ?_
                show Steps p.tables e below (s₁.setTop (mkF m 21 #[.val (.ref a1), .val (.int (4 : Int32)), .val (.int (3 : Int32)), .val (.int (1 : Int32)), .unset, .unset] [(.int (3 : Int32))])) _
                exact k
              obtain ⟨T695, h695, kn695, X695, e695, E695, A695, st695⟩ := newP X0 hx hZ (hw _ (List.mem_of_getElem? (i := 8) rfl)) e0 (g := (mkF m 21 #[.val (.ref a1), .val (.int (4 : Int32)), .val (.int (3 : Int32)), .val (.int (1 : Int32)), .unset, .unset] [(.int (3 : Int32))])) rfl (hb hby d3_21) rfl (by decide) (cap := 3) (by decide) (by decide) (by decide) (by decide)
              obtain ⟨b695, g695⟩ : ∃ z, z = h0.size := ⟨_, rfl⟩
              rw [← g695] at A695 st695
              have ne_a1_b695 : a1 ≠ b695 := Nat.ne_of_lt (Nat.lt_of_lt_of_le V1.lt (Nat.le_of_eq g695.symm))
              have g_b695 : n0 ≤ b695 := Nat.le_trans Z0 (Nat.le_of_eq g695.symm)
              have sz_b695 : h0.size ≤ b695 := Nat.le_trans KP0.1 (Nat.le_of_eq g695.symm)
              have f696 := V1.ext E695
              have Z697 : n0 ≤ h695.size := Nat.le_trans Z0 E695.1
              have KP698 : Keep h0 h695 [] := KP0.ext E695
              have K699 : ∀ t, Steps p.tables e below (T695.setTop (mkF m 23 #[.val (.ref a1), .val (.int (4 : Int32)), .val (.int (3 : Int32)), .val (.int (1 : Int32)), .unset, .unset] [(.ref b695)])) t → Steps p.tables e below G t := fun t k => K694 t (st695 t k)
              have V695 : Arv Z h695 b695 kn695 .int (3 : Int32) [(.int (0 : Int32)), (.int (0 : Int32)), (.int (0 : Int32))] (.int (0 : Int32)) := (Arv.new A695 (by decide)).pad (pad_rep [] (.int (0 : Int32)) 3)
              have K700 : ∀ t, Steps p.tables e below (T695.setTop (mkF m 42 #[.val (.ref a1), .val (.int (4 : Int32)), .val (.int (3 : Int32)), .val (.ref b695), .val (.int (4 : Int32)), .val (.int (2 : Int32))] [(.int (4 : Int32)), (.int (2 : Int32)), (.ref b695)])) t → Steps p.tables e below G t := by
                intro t k
                refine K699 t ?_
                show Steps p.tables e below (T695.setTop (mkF m 23 #[.val (.ref a1), .val (.int (4 : Int32)), .val (.int (3 : Int32)), .val (.int (1 : Int32)), .unset, .unset] [(.ref b695)])) _
                refine XS.astoreN X695.here hx rfl (hb hby d3_23) rfl rfl (l' := #[.val (.ref a1), .val (.int (4 : Int32)), .val (.int (3 : Int32)), .val (.ref b695), .unset, .unset]) rfl ?_
                refine XS.iloadN X695.here hx rfl (hb hby d3_24) rfl ?_
                refine XS.istore X695.here hx rfl (hb hby d3_25) rfl (l' := #[.val (.ref a1), .val (.int (4 : Int32)), .val (.int (3 : Int32)), .val (.ref b695), .val (.int (4 : Int32)), .unset]) rfl ?_
                refine XS.iloadN X695.here hx rfl (hb hby d3_27) rfl ?_
                show Steps p.tables e below (T695.setTop (mkF m 28 #[.val (.ref a1), .val (.int (4 : Int32)), .val (.int (3 : Int32)), .val (.ref b695), .val (.int (4 : Int32)), .unset] [(.int (3 : Int32))])) _
                refine XS.iconst X695.here hx rfl (hb hby d3_28) ?_
                refine XS.isub X695.here hx rfl (hb hby d3_29) rfl ?_
                refine XS.istore X695.here hx rfl (hb hby d3_30) rfl (l' := #[.val (.ref a1), .val (.int (4 : Int32)), .val (.int (3 : Int32)), .val (.ref b695), .val (.int (4 : Int32)), .val (.int (2 : Int32))]) rfl ?_
                refine XS.iload X695.here hx rfl (hb hby d3_32) rfl ?_
                show Steps p.tables e below (T695.setTop (mkF m 34 #[.val (.ref a1), .val (.int (4 : Int32)), .val (.int (3 : Int32)), .val (.ref b695), .val (.int (4 : Int32)), .val (.int (2 : Int32))] [(.int (2 : Int32))])) _
                refine XS.ifNo X695.here hx rfl (hb hby d3_34) rfl ((if0 _ _).trans (flt (by decide)).1) ?_
                refine XS.aloadN X695.here hx rfl (hb hby d3_37) rfl rfl ?_
                refine XS.iload X695.here hx rfl (hb hby d3_38) rfl ?_
                refine XS.iload X695.here hx rfl (hb hby d3_40) rfl ?_
                show Steps p.tables e below (T695.setTop (mkF m 42 #[.val (.ref a1), .val (.int (4 : Int32)), .val (.int (3 : Int32)), .val (.ref b695), .val (.int (4 : Int32)), .val (.int (2 : Int32))] [(.int (4 : Int32)), (.int (2 : Int32)), (.ref b695)])) _
                exact k
              obtain ⟨cl701, Ar701, qc701, S701, M701, Ha701, Ga701⟩ := id V695
              have hin701 : ¬ ((2 : Int32) < 0 ∨ cl701.slots.size ≤ ((2 : Int32)).toNatClampNeg) := inb_of S701 ⟨by decide, by decide⟩
              obtain ⟨T701, h701, X701, e701, W701, st701⟩ := stI X695 hx hZ e695 Ar701 (j := (2 : Int32)) hin701 (g := (mkF m 42 #[.val (.ref a1), .val (.int (4 : Int32)), .val (.int (3 : Int32)), .val (.ref b695), .val (.int (4 : Int32)), .val (.int (2 : Int32))] [(.int (4 : Int32)), (.int (2 : Int32)), (.ref b695)])) rfl rfl (hb hby d3_42)
              have V701 : Arv Z h701 b695 kn695 .int (3 : Int32) [(.int (0 : Int32)), (.int (0 : Int32)), (.int (4 : Int32))] (.int (0 : Int32)) := Arv.set Ar701 qc701 S701 M701 Ha701 Ga701 rfl W701 2 rfl (Nat.le_of_ble_eq_true rfl)
              have K702 : ∀ t, Steps p.tables e below (T701.setTop (mkF m 43 #[.val (.ref a1), .val (.int (4 : Int32)), .val (.int (3 : Int32)), .val (.ref b695), .val (.int (4 : Int32)), .val (.int (2 : Int32))] [])) t → Steps p.tables e below G t := fun t k => K700 t (st701 t k)
              have f703 := f696.other W701 ne_a1_b695
              have Z704 : n0 ≤ h701.size := Nat.le_trans Z697 (Keep.of_wr W701).1
              have KP705 : Keep h0 h701 [] := KP698.wr W701 (Or.inr sz_b695)
              have N706 := Fr.snoc X701 N0 g_b695
              have K707 : ∀ t, Steps p.tables e below (T701.setTop (mkF m 46 #[.val (.ref a1), .val (.int (4 : Int32)), .val (.int (3 : Int32)), .val (.ref b695), .val (.int (4 : Int32)), .val (.int (2 : Int32))] [(.int (4 : Int32)), (.ref a1)])) t → Steps p.tables e below G t := by
                intro t k
                refine K702 t ?_
                show Steps p.tables e below (T701.setTop (mkF m 43 #[.val (.ref a1), .val (.int (4 : Int32)), .val (.int (3 : Int32)), .val (.ref b695), .val (.int (4 : Int32)), .val (.int (2 : Int32))] [])) _
                refine XS.aloadN X701.here hx rfl (hb hby d3_43) rfl rfl ?_
                refine XS.iload X701.here hx rfl (hb hby d3_44) rfl ?_
                show Steps p.tables e below (T701.setTop (mkF m 46 #[.val (.ref a1), .val (.int (4 : Int32)), .val (.int (3 : Int32)), .val (.ref b695), .val (.int (4 : Int32)), .val (.int (2 : Int32))] [(.int (4 : Int32)), (.ref a1)])) _
                exact k
              obtain ⟨cl708, Ar708, qc708, S708, M708, Ha708, Ga708⟩ := id f703
              have hin708 : ¬ ((4 : Int32) < 0 ∨ cl708.slots.size ≤ ((4 : Int32)).toNatClampNeg) := inb_of S708 ⟨by decide, by decide⟩
              have hat708 : cl708.slots[((4 : Int32)).toNatClampNeg]? = some (.int (2 : Int32)) := Ha708.at hin708 rfl
              have K709 : ∀ t, Steps p.tables e below (T701.setTop (mkF m 47 #[.val (.ref a1), .val (.int (4 : Int32)), .val (.int (3 : Int32)), .val (.ref b695), .val (.int (4 : Int32)), .val (.int (2 : Int32))] [(.int (2 : Int32))])) t → Steps p.tables e below G t := fun t k => K707 t (X701.iaload hx (j := (4 : Int32)) (v := (.int (2 : Int32))) (by rw [e701]; exact Ar708.1) (State.isArrayOf_alike hZ.alike Ar708.2.1) Ar708.2.2 hin708 hat708 (g := (mkF m 46 #[.val (.ref a1), .val (.int (4 : Int32)), .val (.int (3 : Int32)), .val (.ref b695), .val (.int (4 : Int32)), .val (.int (2 : Int32))] [(.int (4 : Int32)), (.ref a1)])) rfl rfl (hb hby d3_46) _ k)
              have K710 : ∀ t, Steps p.tables e below (T701.setTop (mkF m 42 #[.val (.ref a1), .val (.int (4 : Int32)), .val (.int (3 : Int32)), .val (.ref b695), .val (.int (2 : Int32)), .val (.int (1 : Int32))] [(.int (2 : Int32)), (.int (1 : Int32)), (.ref b695)])) t → Steps p.tables e below G t := by
                intro t k
                refine K709 t ?_
                show Steps p.tables e below (T701.setTop (mkF m 47 #[.val (.ref a1), .val (.int (4 : Int32)), .val (.int (3 : Int32)), .val (.ref b695), .val (.int (4 : Int32)), .val (.int (2 : Int32))] [(.int (2 : Int32))])) _
                refine XS.istore X701.here hx rfl (hb hby d3_47) rfl (l' := #[.val (.ref a1), .val (.int (4 : Int32)), .val (.int (3 : Int32)), .val (.ref b695), .val (.int (2 : Int32)), .val (.int (2 : Int32))]) rfl ?_
                refine XS.iinc X701.here hx rfl (hb hby d3_49) rfl (l' := #[.val (.ref a1), .val (.int (4 : Int32)), .val (.int (3 : Int32)), .val (.ref b695), .val (.int (2 : Int32)), .val (.int (1 : Int32))]) rfl ?_
                refine XS.goto X701.here hx rfl (pc0 := 52) (pc' := 32) rfl (hb hby d3_52) (by decide) (by decide) ?_
                refine XS.iload X701.here hx rfl (hb hby d3_32) rfl ?_
                show Steps p.tables e below (T701.setTop (mkF m 34 #[.val (.ref a1), .val (.int (4 : Int32)), .val (.int (3 : Int32)), .val (.ref b695), .val (.int (2 : Int32)), .val (.int (1 : Int32))] [(.int (1 : Int32))])) _
                refine XS.ifNo X701.here hx rfl (hb hby d3_34) rfl ((if0 _ _).trans (flt (by decide)).1) ?_
                refine XS.aloadN X701.here hx rfl (hb hby d3_37) rfl rfl ?_
                refine XS.iload X701.here hx rfl (hb hby d3_38) rfl ?_
                refine XS.iload X701.here hx rfl (hb hby d3_40) rfl ?_
                show Steps p.tables e below (T701.setTop (mkF m 42 #[.val (.ref a1), .val (.int (4 : Int32)), .val (.int (3 : Int32)), .val (.ref b695), .val (.int (2 : Int32)), .val (.int (1 : Int32))] [(.int (2 : Int32)), (.int (1 : Int32)), (.ref b695)])) _
                exact k
              obtain ⟨cl711, Ar711, qc711, S711, M711, Ha711, Ga711⟩ := id V701
              have hin711 : ¬ ((1 : Int32) < 0 ∨ cl711.slots.size ≤ ((1 : Int32)).toNatClampNeg) := inb_of S711 ⟨by decide, by decide⟩
              obtain ⟨T711, h711, X711, e711, W711, st711⟩ := stI X701 hx hZ e701 Ar711 (j := (1 : Int32)) hin711 (g := (mkF m 42 #[.val (.ref a1), .val (.int (4 : Int32)), .val (.int (3 : Int32)), .val (.ref b695), .val (.int (2 : Int32)), .val (.int (1 : Int32))] [(.int (2 : Int32)), (.int (1 : Int32)), (.ref b695)])) rfl rfl (hb hby d3_42)
              have V711 : Arv Z h711 b695 kn695 .int (3 : Int32) [(.int (0 : Int32)), (.int (2 : Int32)), (.int (4 : Int32))] (.int (0 : Int32)) := Arv.set Ar711 qc711 S711 M711 Ha711 Ga711 rfl W711 1 rfl (Nat.le_of_ble_eq_true rfl)
              have K712 : ∀ t, Steps p.tables e below (T711.setTop (mkF m 43 #[.val (.ref a1), .val (.int (4 : Int32)), .val (.int (3 : Int32)), .val (.ref b695), .val (.int (2 : Int32)), .val (.int (1 : Int32))] [])) t → Steps p.tables e below G t := fun t k => K710 t (st711 t k)
              have f713 := f703.other W711 ne_a1_b695
              have Z714 : n0 ≤ h711.size := Nat.le_trans Z704 (Keep.of_wr W711).1
              have KP715 : Keep h0 h711 [] := KP705.wr W711 (Or.inr sz_b695)
              have N716 := Fr.snoc X711 N706 g_b695
              have K717 : ∀ t, Steps p.tables e below (T711.setTop (mkF m 46 #[.val (.ref a1), .val (.int (4 : Int32)), .val (.int (3 : Int32)), .val (.ref b695), .val (.int (2 : Int32)), .val (.int (1 : Int32))] [(.int (2 : Int32)), (.ref a1)])) t → Steps p.tables e below G t := by
                intro t k
                refine K712 t ?_
                show Steps p.tables e below (T711.setTop (mkF m 43 #[.val (.ref a1), .val (.int (4 : Int32)), .val (.int (3 : Int32)), .val (.ref b695), .val (.int (2 : Int32)), .val (.int (1 : Int32))] [])) _
                refine XS.aloadN X711.here hx rfl (hb hby d3_43) rfl rfl ?_
                refine XS.iload X711.here hx rfl (hb hby d3_44) rfl ?_
                show Steps p.tables e below (T711.setTop (mkF m 46 #[.val (.ref a1), .val (.int (4 : Int32)), .val (.int (3 : Int32)), .val (.ref b695), .val (.int (2 : Int32)), .val (.int (1 : Int32))] [(.int (2 : Int32)), (.ref a1)])) _
                exact k
              obtain ⟨cl718, Ar718, qc718, S718, M718, Ha718, Ga718⟩ := id f713
              have hin718 : ¬ ((2 : Int32) < 0 ∨ cl718.slots.size ≤ ((2 : Int32)).toNatClampNeg) := inb_of S718 ⟨by decide, by decide⟩
              have hat718 : cl718.slots[((2 : Int32)).toNatClampNeg]? = some (.int (1 : Int32)) := Ha718.at hin718 rfl
              have K719 : ∀ t, Steps p.tables e below (T711.setTop (mkF m 47 #[.val (.ref a1), .val (.int (4 : Int32)), .val (.int (3 : Int32)), .val (.ref b695), .val (.int (2 : Int32)), .val (.int (1 : Int32))] [(.int (1 : Int32))])) t → Steps p.tables e below G t := fun t k => K717 t (X711.iaload hx (j := (2 : Int32)) (v := (.int (1 : Int32))) (by rw [e711]; exact Ar718.1) (State.isArrayOf_alike hZ.alike Ar718.2.1) Ar718.2.2 hin718 hat718 (g := (mkF m 46 #[.val (.ref a1), .val (.int (4 : Int32)), .val (.int (3 : Int32)), .val (.ref b695), .val (.int (2 : Int32)), .val (.int (1 : Int32))] [(.int (2 : Int32)), (.ref a1)])) rfl rfl (hb hby d3_46) _ k)
              have K720 : ∀ t, Steps p.tables e below (T711.setTop (mkF m 42 #[.val (.ref a1), .val (.int (4 : Int32)), .val (.int (3 : Int32)), .val (.ref b695), .val (.int (1 : Int32)), .val (.int (0 : Int32))] [(.int (1 : Int32)), (.int (0 : Int32)), (.ref b695)])) t → Steps p.tables e below G t := by
                intro t k
                refine K719 t ?_
                show Steps p.tables e below (T711.setTop (mkF m 47 #[.val (.ref a1), .val (.int (4 : Int32)), .val (.int (3 : Int32)), .val (.ref b695), .val (.int (2 : Int32)), .val (.int (1 : Int32))] [(.int (1 : Int32))])) _
                refine XS.istore X711.here hx rfl (hb hby d3_47) rfl (l' := #[.val (.ref a1), .val (.int (4 : Int32)), .val (.int (3 : Int32)), .val (.ref b695), .val (.int (1 : Int32)), .val (.int (1 : Int32))]) rfl ?_
                refine XS.iinc X711.here hx rfl (hb hby d3_49) rfl (l' := #[.val (.ref a1), .val (.int (4 : Int32)), .val (.int (3 : Int32)), .val (.ref b695), .val (.int (1 : Int32)), .val (.int (0 : Int32))]) rfl ?_
                refine XS.goto X711.here hx rfl (pc0 := 52) (pc' := 32) rfl (hb hby d3_52) (by decide) (by decide) ?_
                refine XS.iload X711.here hx rfl (hb hby d3_32) rfl ?_
                show Steps p.tables e below (T711.setTop (mkF m 34 #[.val (.ref a1), .val (.int (4 : Int32)), .val (.int (3 : Int32)), .val (.ref b695), .val (.int (1 : Int32)), .val (.int (0 : Int32))] [(.int (0 : Int32))])) _
                refine XS.ifNo X711.here hx rfl (hb hby d3_34) rfl ((if0 _ _).trans (flt (by decide)).1) ?_
                refine XS.aloadN X711.here hx rfl (hb hby d3_37) rfl rfl ?_
                refine XS.iload X711.here hx rfl (hb hby d3_38) rfl ?_
                refine XS.iload X711.here hx rfl (hb hby d3_40) rfl ?_
                show Steps p.tables e below (T711.setTop (mkF m 42 #[.val (.ref a1), .val (.int (4 : Int32)), .val (.int (3 : Int32)), .val (.ref b695), .val (.int (1 : Int32)), .val (.int (0 : Int32))] [(.int (1 : Int32)), (.int (0 : Int32)), (.ref b695)])) _
                exact k
              obtain ⟨cl721, Ar721, qc721, S721, M721, Ha721, Ga721⟩ := id V711
              have hin721 : ¬ ((0 : Int32) < 0 ∨ cl721.slots.size ≤ ((0 : Int32)).toNatClampNeg) := inb_of S721 ⟨by decide, by decide⟩
              obtain ⟨T721, h721, X721, e721, W721, st721⟩ := stI X711 hx hZ e711 Ar721 (j := (0 : Int32)) hin721 (g := (mkF m 42 #[.val (.ref a1), .val (.int (4 : Int32)), .val (.int (3 : Int32)), .val (.ref b695), .val (.int (1 : Int32)), .val (.int (0 : Int32))] [(.int (1 : Int32)), (.int (0 : Int32)), (.ref b695)])) rfl rfl (hb hby d3_42)
              have V721 : Arv Z h721 b695 kn695 .int (3 : Int32) [(.int (1 : Int32)), (.int (2 : Int32)), (.int (4 : Int32))] (.int (0 : Int32)) := Arv.set Ar721 qc721 S721 M721 Ha721 Ga721 rfl W721 0 rfl (Nat.le_of_ble_eq_true rfl)
              have K722 : ∀ t, Steps p.tables e below (T721.setTop (mkF m 43 #[.val (.ref a1), .val (.int (4 : Int32)), .val (.int (3 : Int32)), .val (.ref b695), .val (.int (1 : Int32)), .val (.int (0 : Int32))] [])) t → Steps p.tables e below G t := fun t k => K720 t (st721 t k)
              have f723 := f713.other W721 ne_a1_b695
              have Z724 : n0 ≤ h721.size := Nat.le_trans Z714 (Keep.of_wr W721).1
              have KP725 : Keep h0 h721 [] := KP715.wr W721 (Or.inr sz_b695)
              have N726 := Fr.snoc X721 N716 g_b695
              have K727 : ∀ t, Steps p.tables e below (T721.setTop (mkF m 46 #[.val (.ref a1), .val (.int (4 : Int32)), .val (.int (3 : Int32)), .val (.ref b695), .val (.int (1 : Int32)), .val (.int (0 : Int32))] [(.int (1 : Int32)), (.ref a1)])) t → Steps p.tables e below G t := by
                intro t k
                refine K722 t ?_
                show Steps p.tables e below (T721.setTop (mkF m 43 #[.val (.ref a1), .val (.int (4 : Int32)), .val (.int (3 : Int32)), .val (.ref b695), .val (.int (1 : Int32)), .val (.int (0 : Int32))] [])) _
                refine XS.aloadN X721.here hx rfl (hb hby d3_43) rfl rfl ?_
                refine XS.iload X721.here hx rfl (hb hby d3_44) rfl ?_
                show Steps p.tables e below (T721.setTop (mkF m 46 #[.val (.ref a1), .val (.int (4 : Int32)), .val (.int (3 : Int32)), .val (.ref b695), .val (.int (1 : Int32)), .val (.int (0 : Int32))] [(.int (1 : Int32)), (.ref a1)])) _
                exact k
              obtain ⟨cl728, Ar728, qc728, S728, M728, Ha728, Ga728⟩ := id f723
              have hin728 : ¬ ((1 : Int32) < 0 ∨ cl728.slots.size ≤ ((1 : Int32)).toNatClampNeg) := inb_of S728 ⟨by decide, by decide⟩
              have hat728 : cl728.slots[((1 : Int32)).toNatClampNeg]? = some (.int q1) := Ha728.at hin728 rfl
              have K729 : ∀ t, Steps p.tables e below (T721.setTop (mkF m 47 #[.val (.ref a1), .val (.int (4 : Int32)), .val (.int (3 : Int32)), .val (.ref b695), .val (.int (1 : Int32)), .val (.int (0 : Int32))] [(.int q1)])) t → Steps p.tables e below G t := fun t k => K727 t (X721.iaload hx (j := (1 : Int32)) (v := (.int q1)) (by rw [e721]; exact Ar728.1) (State.isArrayOf_alike hZ.alike Ar728.2.1) Ar728.2.2 hin728 hat728 (g := (mkF m 46 #[.val (.ref a1), .val (.int (4 : Int32)), .val (.int (3 : Int32)), .val (.ref b695), .val (.int (1 : Int32)), .val (.int (0 : Int32))] [(.int (1 : Int32)), (.ref a1)])) rfl rfl (hb hby d3_46) _ k)
              obtain ⟨fs, hr, hrun, hended, hW, hsame⟩ := X721.leave (v := some (.ref b695)) (fun h => by rw [Bd.returns] at h; cases h)
              have KF := K729
              rw [hG] at KF
              refine ⟨_, _, KF _ ?_, hrun, hended, _, _, rfl, ?_, ⟨_, rfl⟩, hW, hsame.mono (by decide) (by decide)⟩
              · show Steps p.tables e below (T721.setTop (mkF m 47 #[.val (.ref a1), .val (.int (4 : Int32)), .val (.int (3 : Int32)), .val (.ref b695), .val (.int (1 : Int32)), .val (.int (0 : Int32))] [(.int q1)])) _
                refine XS.istore X721.here hx rfl (hb hby d3_47) rfl (l' := #[.val (.ref a1), .val (.int (4 : Int32)), .val (.int (3 : Int32)), .val (.ref b695), .val (.int q1), .val (.int (0 : Int32))]) rfl ?_
                refine XS.iinc X721.here hx rfl (hb hby d3_49) rfl (l' := #[.val (.ref a1), .val (.int (4 : Int32)), .val (.int (3 : Int32)), .val (.ref b695), .val (.int q1), .val (.int (-1 : Int32))]) rfl ?_
                refine XS.goto X721.here hx rfl (pc0 := 52) (pc' := 32) rfl (hb hby d3_52) (by decide) (by decide) ?_
                refine XS.iload X721.here hx rfl (hb hby d3_32) rfl ?_
                show Steps p.tables e below (T721.setTop (mkF m 34 #[.val (.ref a1), .val (.int (4 : Int32)), .val (.int (3 : Int32)), .val (.ref b695), .val (.int q1), .val (.int (-1 : Int32))] [(.int (-1 : Int32))])) _
                refine XS.ifYes X721.here hx rfl (pc0 := 34) (pc' := 55) rfl (hb hby d3_34) rfl ((if0 _ _).trans (tlt (by decide)).1) (by decide) (by decide) ?_
                refine XS.aloadN X721.here hx rfl (hb hby d3_55) rfl rfl ?_
                show Steps p.tables e below (T721.setTop (mkF m 56 #[.val (.ref a1), .val (.int (4 : Int32)), .val (.int (3 : Int32)), .val (.ref b695), .val (.int q1), .val (.int (-1 : Int32))] [(.ref b695)])) _
                exact own_retA X721 hx Bd.returns rfl rfl rfl (hb hby d3_56) hr
              · show Q3 Z (4 : Int32) [(.int q0), (.int q1), (.int (1 : Int32)), (.int q3), (.int (2 : Int32))] h0 n0 _ T721.heap _
                rw [e721]
                exact ⟨_, _, _, _, rfl, N726, KP725, sz_b695, V721, ⟨by decide, by decide⟩, ⟨by decide, by decide⟩, rfl, Or.inr ⟨1, q1, 0, by decide, rfl, ⟨by decide, by decide⟩, rfl, Or.inl ⟨rfl, hc693⟩⟩, Or.inr ⟨2, 1, 1, by decide, rfl, ⟨by decide, by decide⟩, rfl, Or.inr ⟨by decide, ⟨by decide, by decide⟩, rfl, rfl⟩⟩, Or.inr ⟨4, 2, 2, by decide, rfl, ⟨by decide, by decide⟩, rfl, Or.inr ⟨by decide, ⟨by decide, by decide⟩, rfl, rfl⟩⟩, Or.inl (by decide), Or.inl (by decide)⟩
            · have K730 : ∀ t, Steps p.tables e below (s₁.setTop (mkF m 15 #[.val (.ref a1), .val (.int (4 : Int32)), .val (.int (4 : Int32)), .val (.int (1 : Int32)), .unset, .unset] [(.int (1 : Int32)), (.ref a1)])) t → Steps p.tables e below G t := by
                intro t k
                refine K692 t ?_
                show Steps p.tables e below (s₁.setTop (mkF m 7 #[.val (.ref a1), .val (.int (4 : Int32)), .val (.int (3 : Int32)), .val (.int (1 : Int32)), .unset, .unset] [(.int q1)])) _
                refine XS.ifNo X0.here hx rfl (hb hby d3_7) rfl ((if0 _ _).trans (flt hc693).1) ?_
                refine XS.iinc X0.here hx rfl (hb hby d3_10) rfl (l' := #[.val (.ref a1), .val (.int (4 : Int32)), .val (.int (4 : Int32)), .val (.int (1 : Int32)), .unset, .unset]) rfl ?_
                refine XS.aloadN X0.here hx rfl (hb hby d3_13) rfl rfl ?_
                refine XS.iloadN X0.here hx rfl (hb hby d3_14) rfl ?_
                show Steps p.tables e below (s₁.setTop (mkF m 15 #[.val (.ref a1), .val (.int (4 : Int32)), .val (.int (4 : Int32)), .val (.int (1 : Int32)), .unset, .unset] [(.int (1 : Int32)), (.ref a1)])) _
                exact k
              obtain ⟨cl731, Ar731, qc731, S731, M731, Ha731, Ga731⟩ := id V1
              have hin731 : ¬ ((1 : Int32) < 0 ∨ cl731.slots.size ≤ ((1 : Int32)).toNatClampNeg) := inb_of S731 ⟨by decide, by decide⟩
              have hat731 : cl731.slots[((1 : Int32)).toNatClampNeg]? = some (.int q1) := Ha731.at hin731 rfl
              have K732 : ∀ t, Steps p.tables e below (s₁.setTop (mkF m 16 #[.val (.ref a1), .val (.int (4 : Int32)), .val (.int (4 : Int32)), .val (.int (1 : Int32)), .unset, .unset] [(.int q1)])) t → Steps p.tables e below G t := fun t k => K730 t (X0.iaload hx (j := (1 : Int32)) (v := (.int q1)) (by rw [e0]; exact Ar731.1) (State.isArrayOf_alike hZ.alike Ar731.2.1) Ar731.2.2 hin731 hat731 (g := (mkF m 15 #[.val (.ref a1), .val (.int (4 : Int32)), .val (.int (4 : Int32)), .val (.int (1 : Int32)), .unset, .unset] [(.int (1 : Int32)), (.ref a1)])) rfl rfl (hb hby d3_15) _ k)
              have K733 : ∀ t, Steps p.tables e below (s₁.setTop (mkF m 4 #[.val (.ref a1), .val (.int (4 : Int32)), .val (.int (4 : Int32)), .val (.int q1), .unset, .unset] [])) t → Steps p.tables e below G t := by
                intro t k
                refine K732 t ?_
                show Steps p.tables e below (s₁.setTop (mkF m 16 #[.val (.ref a1), .val (.int (4 : Int32)), .val (.int (4 : Int32)), .val (.int (1 : Int32)), .unset, .unset] [(.int q1)])) _
                refine XS.istoreN X0.here hx rfl (hb hby d3_16) rfl (l' := #[.val (.ref a1), .val (.int (4 : Int32)), .val (.int (4 : Int32)), .val (.int q1), .unset, .unset]) rfl ?_
                refine XS.goto X0.here hx rfl (pc0 := 17) (pc' := 4) rfl (hb hby d3_17) (by decide) (by decide) ?_
                show Steps p.tables e below (s₁.setTop (mkF m 4 #[.val (.ref a1), .val (.int (4 : Int32)), .val (.int (4 : Int32)), .val (.int q1), .unset, .unset] [])) _
                exact k
              obtain rfl := own_lt1 hc693 hq1
              · have K734 : ∀ t, Steps p.tables e below (s₁.setTop (mkF m 6 #[.val (.ref a1), .val (.int (4 : Int32)), .val (.int (4 : Int32)), .val (.int (0 : Int32)), .unset, .unset] [(.int (0 : Int32)), (.ref a1)])) t → Steps p.tables e below G t := by
                  intro t k
                  refine K733 t ?_
                  show Steps p.tables e below (s₁.setTop (mkF m 4 #[.val (.ref a1), .val (.int (4 : Int32)), .val (.int (4 : Int32)), .val (.int (0 : Int32)), .unset, .unset] [])) _
                  refine XS.aloadN X0.here hx rfl (hb hby d3_4) rfl rfl ?_
                  refine XS.iloadN X0.here hx rfl (hb hby d3_5) rfl ?_
                  show Steps p.tables e below (s₁.setTop (mkF m 6 #[.val (.ref a1), .val (.int (4 : Int32)), .val (.int (4 : Int32)), .val (.int (0 : Int32)), .unset, .unset] [(.int (0 : Int32)), (.ref a1)])) _
                  exact k
                obtain ⟨cl735, Ar735, qc735, S735, M735, Ha735, Ga735⟩ := id V1
                have hin735 : ¬ ((0 : Int32) < 0 ∨ cl735.slots.size ≤ ((0 : Int32)).toNatClampNeg) := inb_of S735 ⟨by decide, by decide⟩
                have hat735 : cl735.slots[((0 : Int32)).toNatClampNeg]? = some (.int q0) := Ha735.at hin735 rfl
                have K736 : ∀ t, Steps p.tables e below (s₁.setTop (mkF m 7 #[.val (.ref a1), .val (.int (4 : Int32)), .val (.int (4 : Int32)), .val (.int (0 : Int32)), .unset, .unset] [(.int q0)])) t → Steps p.tables e below G t := fun t k => K734 t (X0.iaload hx (j := (0 : Int32)) (v := (.int q0)) (by rw [e0]; exact Ar735.1) (State.isArrayOf_alike hZ.alike Ar735.2.1) Ar735.2.2 hin735 hat735 (g := (mkF m 6 #[.val (.ref a1), .val (.int (4 : Int32)), .val (.int (4 : Int32)), .val (.int (0 : Int32)), .unset, .unset] [(.int (0 : Int32)), (.ref a1)])) rfl rfl (hb hby d3_6) _ k)
                have K737 : ∀ t, Steps p.tables e below (s₁.setTop (mkF m 21 #[.val (.ref a1), .val (.int (4 : Int32)), .val (.int (4 : Int32)), .val (.int (0 : Int32)), .unset, .unset] [(.int (4 : Int32))])) t → Steps p.tables e below G t := by
                  intro t k
                  refine K736 t ?_
                  show Steps p.tables e below (s₁.setTop (mkF m 7 #[.val (.ref a1), .val (.int (4 : Int32)), .val (.int (4 : Int32)), .val (.int (0 : Int32)), .unset, .unset] [(.int q0)])) _
                  refine XS.ifYes X0.here hx rfl (pc0 := 7) (pc' := 20) rfl (hb hby d3_7) rfl ((if0 _ _).trans (tlt hq0).1) (by decide) (by decide) ?_
                  refine XS.iloadN X0.here hx rfl (hb hby d3_20) rfl ?_
                  show Steps p.tables e below (s₁.setTop (mkF m 21 #[.val (.ref a1), .val (.int (4 : Int32)), .val (.int (4 : Int32)), .val (.int (0 : Int32)), .unset, .unset] [(.int (4 : Int32))])) _
                  exact k
                obtain ⟨T738, h738, kn738, X738, e738, E738, A738, st738⟩ := newP X0 hx hZ (hw _ (List.mem_of_getElem? (i := 8) rfl)) e0 (g := (mkF m 21 #[.val (.ref a1), .val (.int (4 : Int32)), .val (.int (4 : Int32)), .val (.int (0 : Int32)), .unset, .unset] [(.int (4 : Int32))])) rfl (hb hby d3_21) rfl (by decide) (cap := 4) (by decide) (by decide) (by decide) (by decide)
                obtain ⟨b738, g738⟩ : ∃ z, z = h0.size := ⟨_, rfl⟩
                rw [← g738] at A738 st738
                have ne_a1_b738 : a1 ≠ b738 := Nat.ne_of_lt (Nat.lt_of_lt_of_le V1.lt (Nat.le_of_eq g738.symm))
                have g_b738 : n0 ≤ b738 := Nat.le_trans Z0 (Nat.le_of_eq g738.symm)
                have sz_b738 : h0.size ≤ b738 := Nat.le_trans KP0.1 (Nat.le_of_eq g738.symm)
                have f739 := V1.ext E738
                have Z740 : n0 ≤ h738.size := Nat.le_trans Z0 E738.1
                have KP741 : Keep h0 h738 [] := KP0.ext E738
                have K742 : ∀ t, Steps p.tables e below (T738.setTop (mkF m 23 #[.val (.ref a1), .val (.int (4 : Int32)), .val (.int (4 : Int32)), .val (.int (0 : Int32)), .unset, .unset] [(.ref b738)])) t → Steps p.tables e below G t := fun t k => K737 t (st738 t k)
                have V738 : Arv Z h738 b738 kn738 .int (4 : Int32) [(.int (0 : Int32)), (.int (0 : Int32)), (.int (0 : Int32)), (.int (0 : Int32))] (.int (0 : Int32)) := (Arv.new A738 (by decide)).pad (pad_rep [] (.int (0 : Int32)) 4)
                have K743 : ∀ t, Steps p.tables e below (T738.setTop (mkF m 42 #[.val (.ref a1), .val (.int (4 : Int32)), .val (.int (4 : Int32)), .val (.ref b738), .val (.int (4 : Int32)), .val (.int (3 : Int32))] [(.int (4 : Int32)), (.int (3 : Int32)), (.ref b738)])) t → Steps p.tables e below G t := by
                  intro t k
                  refine K742 t ?_
                  show Steps p.tables e below (T738.setTop (mkF m 23 #[.val (.ref a1), .val (.int (4 : Int32)), .val (.int (4 : Int32)), .val (.int (0 : Int32)), .unset, .unset] [(.ref b738)])) _
                  refine XS.astoreN X738.here hx rfl (hb hby d3_23) rfl rfl (l' := #[.val (.ref a1), .val (.int (4 : Int32)), .val (.int (4 : Int32)), .val (.ref b738), .unset, .unset]) rfl ?_
                  refine XS.iloadN X738.here hx rfl (hb hby d3_24) rfl ?_
                  refine XS.istore X738.here hx rfl (hb hby d3_25) rfl (l' := #[.val (.ref a1), .val (.int (4 : Int32)), .val (.int (4 : Int32)), .val (.ref b738), .val (.int (4 : Int32)), .unset]) rfl ?_
                  refine XS.iloadN X738.here hx rfl (hb hby d3_27) rfl ?_
                  show Steps p.tables e below (T738.setTop (mkF m 28 #[.val (.ref a1), .val (.int (4 : Int32)), .val (.int (4 : Int32)), .val (.ref b738), .val (.int (4 : Int32)), .unset] [(.int (4 : Int32))])) _
                  refine XS.iconst X738.here hx rfl (hb hby d3_28) ?_
                  refine XS.isub X738.here hx rfl (hb hby d3_29) rfl ?_
                  refine XS.istore X738.here hx rfl (hb hby d3_30) rfl (l' := #[.val (.ref a1), .val (.int (4 : Int32)), .val (.int (4 : Int32)), .val (.ref b738), .val (.int (4 : Int32)), .val (.int (3 : Int32))]) rfl ?_
                  refine XS.iload X738.here hx rfl (hb hby d3_32) rfl ?_
                  show Steps p.tables e below (T738.setTop (mkF m 34 #[.val (.ref a1), .val (.int (4 : Int32)), .val (.int (4 : Int32)), .val (.ref b738), .val (.int (4 : Int32)), .val (.int (3 : Int32))] [(.int (3 : Int32))])) _
                  refine XS.ifNo X738.here hx rfl (hb hby d3_34) rfl ((if0 _ _).trans (flt (by decide)).1) ?_
                  refine XS.aloadN X738.here hx rfl (hb hby d3_37) rfl rfl ?_
                  refine XS.iload X738.here hx rfl (hb hby d3_38) rfl ?_
                  refine XS.iload X738.here hx rfl (hb hby d3_40) rfl ?_
                  show Steps p.tables e below (T738.setTop (mkF m 42 #[.val (.ref a1), .val (.int (4 : Int32)), .val (.int (4 : Int32)), .val (.ref b738), .val (.int (4 : Int32)), .val (.int (3 : Int32))] [(.int (4 : Int32)), (.int (3 : Int32)), (.ref b738)])) _
                  exact k
                obtain ⟨cl744, Ar744, qc744, S744, M744, Ha744, Ga744⟩ := id V738
                have hin744 : ¬ ((3 : Int32) < 0 ∨ cl744.slots.size ≤ ((3 : Int32)).toNatClampNeg) := inb_of S744 ⟨by decide, by decide⟩
                obtain ⟨T744, h744, X744, e744, W744, st744⟩ := stI X738 hx hZ e738 Ar744 (j := (3 : Int32)) hin744 (g := (mkF m 42 #[.val (.ref a1), .val (.int (4 : Int32)), .val (.int (4 : Int32)), .val (.ref b738), .val (.int (4 : Int32)), .val (.int (3 : Int32))] [(.int (4 : Int32)), (.int (3 : Int32)), (.ref b738)])) rfl rfl (hb hby d3_42)
                have V744 : Arv Z h744 b738 kn738 .int (4 : Int32) [(.int (0 : Int32)), (.int (0 : Int32)), (.int (0 : Int32)), (.int (4 : Int32))] (.int (0 : Int32)) := Arv.set Ar744 qc744 S744 M744 Ha744 Ga744 rfl W744 3 rfl (Nat.le_of_ble_eq_true rfl)
                have K745 : ∀ t, Steps p.tables e below (T744.setTop (mkF m 43 #[.val (.ref a1), .val (.int (4 : Int32)), .val (.int (4 : Int32)), .val (.ref b738), .val (.int (4 : Int32)), .val (.int (3 : Int32))] [])) t → Steps p.tables e below G t := fun t k => K743 t (st744 t k)
                have f746 := f739.other W744 ne_a1_b738
                have Z747 : n0 ≤ h744.size := Nat.le_trans Z740 (Keep.of_wr W744).1
                have KP748 : Keep h0 h744 [] := KP741.wr W744 (Or.inr sz_b738)
                have N749 := Fr.snoc X744 N0 g_b738
                have K750 : ∀ t, Steps p.tables e below (T744.setTop (mkF m 46 #[.val (.ref a1), .val (.int (4 : Int32)), .val (.int (4 : Int32)), .val (.ref b738), .val (.int (4 : Int32)), .val (.int (3 : Int32))] [(.int (4 : Int32)), (.ref a1)])) t → Steps p.tables e below G t := by
                  intro t k
                  refine K745 t ?_
                  show Steps p.tables e below (T744.setTop (mkF m 43 #[.val (.ref a1), .val (.int (4 : Int32)), .val (.int (4 : Int32)), .val (.ref b738), .val (.int (4 : Int32)), .val (.int (3 : Int32))] [])) _
                  refine XS.aloadN X744.here hx rfl (hb hby d3_43) rfl rfl ?_
                  refine XS.iload X744.here hx rfl (hb hby d3_44) rfl ?_
                  show Steps p.tables e below (T744.setTop (mkF m 46 #[.val (.ref a1), .val (.int (4 : Int32)), .val (.int (4 : Int32)), .val (.ref b738), .val (.int (4 : Int32)), .val (.int (3 : Int32))] [(.int (4 : Int32)), (.ref a1)])) _
                  exact k
                obtain ⟨cl751, Ar751, qc751, S751, M751, Ha751, Ga751⟩ := id f746
                have hin751 : ¬ ((4 : Int32) < 0 ∨ cl751.slots.size ≤ ((4 : Int32)).toNatClampNeg) := inb_of S751 ⟨by decide, by decide⟩
                have hat751 : cl751.slots[((4 : Int32)).toNatClampNeg]? = some (.int (2 : Int32)) := Ha751.at hin751 rfl
                have K752 : ∀ t, Steps p.tables e below (T744.setTop (mkF m 47 #[.val (.ref a1), .val (.int (4 : Int32)), .val (.int (4 : Int32)), .val (.ref b738), .val (.int (4 : Int32)), .val (.int (3 : Int32))] [(.int (2 : Int32))])) t → Steps p.tables e below G t := fun t k => K750 t (X744.iaload hx (j := (4 : Int32)) (v := (.int (2 : Int32))) (by rw [e744]; exact Ar751.1) (State.isArrayOf_alike hZ.alike Ar751.2.1) Ar751.2.2 hin751 hat751 (g := (mkF m 46 #[.val (.ref a1), .val (.int (4 : Int32)), .val (.int (4 : Int32)), .val (.ref b738), .val (.int (4 : Int32)), .val (.int (3 : Int32))] [(.int (4 : Int32)), (.ref a1)])) rfl rfl (hb hby d3_46) _ k)
                have K753 : ∀ t, Steps p.tables e below (T744.setTop (mkF m 42 #[.val (.ref a1), .val (.int (4 : Int32)), .val (.int (4 : Int32)), .val (.ref b738), .val (.int (2 : Int32)), .val (.int (2 : Int32))] [(.int (2 : Int32)), (.int (2 : Int32)), (.ref b738)])) t → Steps p.tables e below G t := by
                  intro t k
                  refine K752 t ?_
                  show Steps p.tables e below (T744.setTop (mkF m 47 #[.val (.ref a1), .val (.int (4 : Int32)), .val (.int (4 : Int32)), .val (.ref b738), .val (.int (4 : Int32)), .val (.int (3 : Int32))] [(.int (2 : Int32))])) _
                  refine XS.istore X744.here hx rfl (hb hby d3_47) rfl (l' := #[.val (.ref a1), .val (.int (4 : Int32)), .val (.int (4 : Int32)), .val (.ref b738), .val (.int (2 : Int32)), .val (.int (3 : Int32))]) rfl ?_
                  refine XS.iinc X744.here hx rfl (hb hby d3_49) rfl (l' := #[.val (.ref a1), .val (.int (4 : Int32)), .val (.int (4 : Int32)), .val (.ref b738), .val (.int (2 : Int32)), .val (.int (2 : Int32))]) rfl ?_
                  refine XS.goto X744.here hx rfl (pc0 := 52) (pc' := 32) rfl (hb hby d3_52) (by decide) (by decide) ?_
                  refine XS.iload X744.here hx rfl (hb hby d3_32) rfl ?_
                  show Steps p.tables e below (T744.setTop (mkF m 34 #[.val (.ref a1), .val (.int (4 : Int32)), .val (.int (4 : Int32)), .val (.ref b738), .val (.int (2 : Int32)), .val (.int (2 : Int32))] [(.int (2 : Int32))])) _
                  refine XS.ifNo X744.here hx rfl (hb hby d3_34) rfl ((if0 _ _).trans (flt (by decide)).1) ?_
                  refine XS.aloadN X744.here hx rfl (hb hby d3_37) rfl rfl ?_
                  refine XS.iload X744.here hx rfl (hb hby d3_38) rfl ?_
                  refine XS.iload X744.here hx rfl (hb hby d3_40) rfl ?_
                  show Steps p.tables e below (T744.setTop (mkF m 42 #[.val (.ref a1), .val (.int (4 : Int32)), .val (.int (4 : Int32)), .val (.ref b738), .val (.int (2 : Int32)), .val (.int (2 : Int32))] [(.int (2 : Int32)), (.int (2 : Int32)), (.ref b738)])) _
                  exact k
                obtain ⟨cl754, Ar754, qc754, S754, M754, Ha754, Ga754⟩ := id V744
                have hin754 : ¬ ((2 : Int32) < 0 ∨ cl754.slots.size ≤ ((2 : Int32)).toNatClampNeg) := inb_of S754 ⟨by decide, by decide⟩
                obtain ⟨T754, h754, X754, e754, W754, st754⟩ := stI X744 hx hZ e744 Ar754 (j := (2 : Int32)) hin754 (g := (mkF m 42 #[.val (.ref a1), .val (.int (4 : Int32)), .val (.int (4 : Int32)), .val (.ref b738), .val (.int (2 : Int32)), .val (.int (2 : Int32))] [(.int (2 : Int32)), (.int (2 : Int32)), (.ref b738)])) rfl rfl (hb hby d3_42)
                have V754 : Arv Z h754 b738 kn738 .int (4 : Int32) [(.int (0 : Int32)), (.int (0 : Int32)), (.int (2 : Int32)), (.int (4 : Int32))] (.int (0 : Int32)) := Arv.set Ar754 qc754 S754 M754 Ha754 Ga754 rfl W754 2 rfl (Nat.le_of_ble_eq_true rfl)
                have K755 : ∀ t, Steps p.tables e below (T754.setTop (mkF m 43 #[.val (.ref a1), .val (.int (4 : Int32)), .val (.int (4 : Int32)), .val (.ref b738), .val (.int (2 : Int32)), .val (.int (2 : Int32))] [])) t → Steps p.tables e below G t := fun t k => K753 t (st754 t k)
                have f756 := f746.other W754 ne_a1_b738
                have Z757 : n0 ≤ h754.size := Nat.le_trans Z747 (Keep.of_wr W754).1
                have KP758 : Keep h0 h754 [] := KP748.wr W754 (Or.inr sz_b738)
                have N759 := Fr.snoc X754 N749 g_b738
                have K760 : ∀ t, Steps p.tables e below (T754.setTop (mkF m 46 #[.val (.ref a1), .val (.int (4 : Int32)), .val (.int (4 : Int32)), .val (.ref b738), .val (.int (2 : Int32)), .val (.int (2 : Int32))] [(.int (2 : Int32)), (.ref a1)])) t → Steps p.tables e below G t := by
                  intro t k
                  refine K755 t ?_
                  show Steps p.tables e below (T754.setTop (mkF m 43 #[.val (.ref a1), .val (.int (4 : Int32)), .val (.int (4 : Int32)), .val (.ref b738), .val (.int (2 : Int32)), .val (.int (2 : Int32))] [])) _
                  refine XS.aloadN X754.here hx rfl (hb hby d3_43) rfl rfl ?_
                  refine XS.iload X754.here hx rfl (hb hby d3_44) rfl ?_
                  show Steps p.tables e below (T754.setTop (mkF m 46 #[.val (.ref a1), .val (.int (4 : Int32)), .val (.int (4 : Int32)), .val (.ref b738), .val (.int (2 : Int32)), .val (.int (2 : Int32))] [(.int (2 : Int32)), (.ref a1)])) _
                  exact k
                obtain ⟨cl761, Ar761, qc761, S761, M761, Ha761, Ga761⟩ := id f756
                have hin761 : ¬ ((2 : Int32) < 0 ∨ cl761.slots.size ≤ ((2 : Int32)).toNatClampNeg) := inb_of S761 ⟨by decide, by decide⟩
                have hat761 : cl761.slots[((2 : Int32)).toNatClampNeg]? = some (.int (1 : Int32)) := Ha761.at hin761 rfl
                have K762 : ∀ t, Steps p.tables e below (T754.setTop (mkF m 47 #[.val (.ref a1), .val (.int (4 : Int32)), .val (.int (4 : Int32)), .val (.ref b738), .val (.int (2 : Int32)), .val (.int (2 : Int32))] [(.int (1 : Int32))])) t → Steps p.tables e below G t := fun t k => K760 t (X754.iaload hx (j := (2 : Int32)) (v := (.int (1 : Int32))) (by rw [e754]; exact Ar761.1) (State.isArrayOf_alike hZ.alike Ar761.2.1) Ar761.2.2 hin761 hat761 (g := (mkF m 46 #[.val (.ref a1), .val (.int (4 : Int32)), .val (.int (4 : Int32)), .val (.ref b738), .val (.int (2 : Int32)), .val (.int (2 : Int32))] [(.int (2 : Int32)), (.ref a1)])) rfl rfl (hb hby d3_46) _ k)
                have K763 : ∀ t, Steps p.tables e below (T754.setTop (mkF m 42 #[.val (.ref a1), .val (.int (4 : Int32)), .val (.int (4 : Int32)), .val (.ref b738), .val (.int (1 : Int32)), .val (.int (1 : Int32))] [(.int (1 : Int32)), (.int (1 : Int32)), (.ref b738)])) t → Steps p.tables e below G t := by
                  intro t k
                  refine K762 t ?_
                  show Steps p.tables e below (T754.setTop (mkF m 47 #[.val (.ref a1), .val (.int (4 : Int32)), .val (.int (4 : Int32)), .val (.ref b738), .val (.int (2 : Int32)), .val (.int (2 : Int32))] [(.int (1 : Int32))])) _
                  refine XS.istore X754.here hx rfl (hb hby d3_47) rfl (l' := #[.val (.ref a1), .val (.int (4 : Int32)), .val (.int (4 : Int32)), .val (.ref b738), .val (.int (1 : Int32)), .val (.int (2 : Int32))]) rfl ?_
                  refine XS.iinc X754.here hx rfl (hb hby d3_49) rfl (l' := #[.val (.ref a1), .val (.int (4 : Int32)), .val (.int (4 : Int32)), .val (.ref b738), .val (.int (1 : Int32)), .val (.int (1 : Int32))]) rfl ?_
                  refine XS.goto X754.here hx rfl (pc0 := 52) (pc' := 32) rfl (hb hby d3_52) (by decide) (by decide) ?_
                  refine XS.iload X754.here hx rfl (hb hby d3_32) rfl ?_
                  show Steps p.tables e below (T754.setTop (mkF m 34 #[.val (.ref a1), .val (.int (4 : Int32)), .val (.int (4 : Int32)), .val (.ref b738), .val (.int (1 : Int32)), .val (.int (1 : Int32))] [(.int (1 : Int32))])) _
                  refine XS.ifNo X754.here hx rfl (hb hby d3_34) rfl ((if0 _ _).trans (flt (by decide)).1) ?_
                  refine XS.aloadN X754.here hx rfl (hb hby d3_37) rfl rfl ?_
                  refine XS.iload X754.here hx rfl (hb hby d3_38) rfl ?_
                  refine XS.iload X754.here hx rfl (hb hby d3_40) rfl ?_
                  show Steps p.tables e below (T754.setTop (mkF m 42 #[.val (.ref a1), .val (.int (4 : Int32)), .val (.int (4 : Int32)), .val (.ref b738), .val (.int (1 : Int32)), .val (.int (1 : Int32))] [(.int (1 : Int32)), (.int (1 : Int32)), (.ref b738)])) _
                  exact k
                obtain ⟨cl764, Ar764, qc764, S764, M764, Ha764, Ga764⟩ := id V754
                have hin764 : ¬ ((1 : Int32) < 0 ∨ cl764.slots.size ≤ ((1 : Int32)).toNatClampNeg) := inb_of S764 ⟨by decide, by decide⟩
                obtain ⟨T764, h764, X764, e764, W764, st764⟩ := stI X754 hx hZ e754 Ar764 (j := (1 : Int32)) hin764 (g := (mkF m 42 #[.val (.ref a1), .val (.int (4 : Int32)), .val (.int (4 : Int32)), .val (.ref b738), .val (.int (1 : Int32)), .val (.int (1 : Int32))] [(.int (1 : Int32)), (.int (1 : Int32)), (.ref b738)])) rfl rfl (hb hby d3_42)
                have V764 : Arv Z h764 b738 kn738 .int (4 : Int32) [(.int (0 : Int32)), (.int (1 : Int32)), (.int (2 : Int32)), (.int (4 : Int32))] (.int (0 : Int32)) := Arv.set Ar764 qc764 S764 M764 Ha764 Ga764 rfl W764 1 rfl (Nat.le_of_ble_eq_true rfl)
                have K765 : ∀ t, Steps p.tables e below (T764.setTop (mkF m 43 #[.val (.ref a1), .val (.int (4 : Int32)), .val (.int (4 : Int32)), .val (.ref b738), .val (.int (1 : Int32)), .val (.int (1 : Int32))] [])) t → Steps p.tables e below G t := fun t k => K763 t (st764 t k)
                have f766 := f756.other W764 ne_a1_b738
                have Z767 : n0 ≤ h764.size := Nat.le_trans Z757 (Keep.of_wr W764).1
                have KP768 : Keep h0 h764 [] := KP758.wr W764 (Or.inr sz_b738)
                have N769 := Fr.snoc X764 N759 g_b738
                have K770 : ∀ t, Steps p.tables e below (T764.setTop (mkF m 46 #[.val (.ref a1), .val (.int (4 : Int32)), .val (.int (4 : Int32)), .val (.ref b738), .val (.int (1 : Int32)), .val (.int (1 : Int32))] [(.int (1 : Int32)), (.ref a1)])) t → Steps p.tables e below G t := by
                  intro t k
                  refine K765 t ?_
                  show Steps p.tables e below (T764.setTop (mkF m 43 #[.val (.ref a1), .val (.int (4 : Int32)), .val (.int (4 : Int32)), .val (.ref b738), .val (.int (1 : Int32)), .val (.int (1 : Int32))] [])) _
                  refine XS.aloadN X764.here hx rfl (hb hby d3_43) rfl rfl ?_
                  refine XS.iload X764.here hx rfl (hb hby d3_44) rfl ?_
                  show Steps p.tables e below (T764.setTop (mkF m 46 #[.val (.ref a1), .val (.int (4 : Int32)), .val (.int (4 : Int32)), .val (.ref b738), .val (.int (1 : Int32)), .val (.int (1 : Int32))] [(.int (1 : Int32)), (.ref a1)])) _
                  exact k
                obtain ⟨cl771, Ar771, qc771, S771, M771, Ha771, Ga771⟩ := id f766
                have hin771 : ¬ ((1 : Int32) < 0 ∨ cl771.slots.size ≤ ((1 : Int32)).toNatClampNeg) := inb_of S771 ⟨by decide, by decide⟩
                have hat771 : cl771.slots[((1 : Int32)).toNatClampNeg]? = some (.int (0 : Int32)) := Ha771.at hin771 rfl
                have K772 : ∀ t, Steps p.tables e below (T764.setTop (mkF m 47 #[.val (.ref a1), .val (.int (4 : Int32)), .val (.int (4 : Int32)), .val (.ref b738), .val (.int (1 : Int32)), .val (.int (1 : Int32))] [(.int (0 : Int32))])) t → Steps p.tables e below G t := fun t k => K770 t (X764.iaload hx (j := (1 : Int32)) (v := (.int (0 : Int32))) (by rw [e764]; exact Ar771.1) (State.isArrayOf_alike hZ.alike Ar771.2.1) Ar771.2.2 hin771 hat771 (g := (mkF m 46 #[.val (.ref a1), .val (.int (4 : Int32)), .val (.int (4 : Int32)), .val (.ref b738), .val (.int (1 : Int32)), .val (.int (1 : Int32))] [(.int (1 : Int32)), (.ref a1)])) rfl rfl (hb hby d3_46) _ k)
                have K773 : ∀ t, Steps p.tables e below (T764.setTop (mkF m 42 #[.val (.ref a1), .val (.int (4 : Int32)), .val (.int (4 : Int32)), .val (.ref b738), .val (.int (0 : Int32)), .val (.int (0 : Int32))] [(.int (0 : Int32)), (.int (0 : Int32)), (.ref b738)])) t → Steps p.tables e below G t := by
                  intro t k
                  refine K772 t ?_
                  show Steps p.tables e below (T764.setTop (mkF m 47 #[.val (.ref a1), .val (.int (4 : Int32)), .val (.int (4 : Int32)), .val (.ref b738), .val (.int (1 : Int32)), .val (.int (1 : Int32))] [(.int (0 : Int32))])) _
                  refine XS.istore X764.here hx rfl (hb hby d3_47) rfl (l' := #[.val (.ref a1), .val (.int (4 : Int32)), .val (.int (4 : Int32)), .val (.ref b738), .val (.int (0 : Int32)), .val (.int (1 : Int32))]) rfl ?_
                  refine XS.iinc X764.here hx rfl (hb hby d3_49) rfl (l' := #[.val (.ref a1), .val (.int (4 : Int32)), .val (.int (4 : Int32)), .val (.ref b738), .val (.int (0 : Int32)), .val (.int (0 : Int32))]) rfl ?_
                  refine XS.goto X764.here hx rfl (pc0 := 52) (pc' := 32) rfl (hb hby d3_52) (by decide) (by decide) ?_
                  refine XS.iload X764.here hx rfl (hb hby d3_32) rfl ?_
                  show Steps p.tables e below (T764.setTop (mkF m 34 #[.val (.ref a1), .val (.int (4 : Int32)), .val (.int (4 : Int32)), .val (.ref b738), .val (.int (0 : Int32)), .val (.int (0 : Int32))] [(.int (0 : Int32))])) _
                  refine XS.ifNo X764.here hx rfl (hb hby d3_34) rfl ((if0 _ _).trans (flt (by decide)).1) ?_
                  refine XS.aloadN X764.here hx rfl (hb hby d3_37) rfl rfl ?_
                  refine XS.iload X764.here hx rfl (hb hby d3_38) rfl ?_
                  refine XS.iload X764.here hx rfl (hb hby d3_40) rfl ?_
                  show Steps p.tables e below (T764.setTop (mkF m 42 #[.val (.ref a1), .val (.int (4 : Int32)), .val (.int (4 : Int32)), .val (.ref b738), .val (.int (0 : Int32)), .val (.int (0 : Int32))] [(.int (0 : Int32)), (.int (0 : Int32)), (.ref b738)])) _
                  exact k
                obtain ⟨cl774, Ar774, qc774, S774, M774, Ha774, Ga774⟩ := id V764
                have hin774 : ¬ ((0 : Int32) < 0 ∨ cl774.slots.size ≤ ((0 : Int32)).toNatClampNeg) := inb_of S774 ⟨by decide, by decide⟩
                obtain ⟨T774, h774, X774, e774, W774, st774⟩ := stI X764 hx hZ e764 Ar774 (j := (0 : Int32)) hin774 (g := (mkF m 42 #[.val (.ref a1), .val (.int (4 : Int32)), .val (.int (4 : Int32)), .val (.ref b738), .val (.int (0 : Int32)), .val (.int (0 : Int32))] [(.int (0 : Int32)), (.int (0 : Int32)), (.ref b738)])) rfl rfl (hb hby d3_42)
                have V774 : Arv Z h774 b738 kn738 .int (4 : Int32) [(.int (0 : Int32)), (.int (1 : Int32)), (.int (2 : Int32)), (.int (4 : Int32))] (.int (0 : Int32)) := Arv.set Ar774 qc774 S774 M774 Ha774 Ga774 rfl W774 0 rfl (Nat.le_of_ble_eq_true rfl)
                have K775 : ∀ t, Steps p.tables e below (T774.setTop (mkF m 43 #[.val (.ref a1), .val (.int (4 : Int32)), .val (.int (4 : Int32)), .val (.ref b738), .val (.int (0 : Int32)), .val (.int (0 : Int32))] [])) t → Steps p.tables e below G t := fun t k => K773 t (st774 t k)
                have f776 := f766.other W774 ne_a1_b738
                have Z777 : n0 ≤ h774.size := Nat.le_trans Z767 (Keep.of_wr W774).1
                have KP778 : Keep h0 h774 [] := KP768.wr W774 (Or.inr sz_b738)
                have N779 := Fr.snoc X774 N769 g_b738
                have K780 : ∀ t, Steps p.tables e below (T774.setTop (mkF m 46 #[.val (.ref a1), .val (.int (4 : Int32)), .val (.int (4 : Int32)), .val (.ref b738), .val (.int (0 : Int32)), .val (.int (0 : Int32))] [(.int (0 : Int32)), (.ref a1)])) t → Steps p.tables e below G t := by
                  intro t k
                  refine K775 t ?_
                  show Steps p.tables e below (T774.setTop (mkF m 43 #[.val (.ref a1), .val (.int (4 : Int32)), .val (.int (4 : Int32)), .val (.ref b738), .val (.int (0 : Int32)), .val (.int (0 : Int32))] [])) _
                  refine XS.aloadN X774.here hx rfl (hb hby d3_43) rfl rfl ?_
                  refine XS.iload X774.here hx rfl (hb hby d3_44) rfl ?_
                  show Steps p.tables e below (T774.setTop (mkF m 46 #[.val (.ref a1), .val (.int (4 : Int32)), .val (.int (4 : Int32)), .val (.ref b738), .val (.int (0 : Int32)), .val (.int (0 : Int32))] [(.int (0 : Int32)), (.ref a1)])) _
                  exact k
                obtain ⟨cl781, Ar781, qc781, S781, M781, Ha781, Ga781⟩ := id f776
                have hin781 : ¬ ((0 : Int32) < 0 ∨ cl781.slots.size ≤ ((0 : Int32)).toNatClampNeg) := inb_of S781 ⟨by decide, by decide⟩
                have hat781 : cl781.slots[((0 : Int32)).toNatClampNeg]? = some (.int q0) := Ha781.at hin781 rfl
                have K782 : ∀ t, Steps p.tables e below (T774.setTop (mkF m 47 #[.val (.ref a1), .val (.int (4 : Int32)), .val (.int (4 : Int32)), .val (.ref b738), .val (.int (0 : Int32)), .val (.int (0 : Int32))] [(.int q0)])) t → Steps p.tables e below G t := fun t k => K780 t (X774.iaload hx (j := (0 : Int32)) (v := (.int q0)) (by rw [e774]; exact Ar781.1) (State.isArrayOf_alike hZ.alike Ar781.2.1) Ar781.2.2 hin781 hat781 (g := (mkF m 46 #[.val (.ref a1), .val (.int (4 : Int32)), .val (.int (4 : Int32)), .val (.ref b738), .val (.int (0 : Int32)), .val (.int (0 : Int32))] [(.int (0 : Int32)), (.ref a1)])) rfl rfl (hb hby d3_46) _ k)
                obtain ⟨fs, hr, hrun, hended, hW, hsame⟩ := X774.leave (v := some (.ref b738)) (fun h => by rw [Bd.returns] at h; cases h)
                have KF := K782
                rw [hG] at KF
                refine ⟨_, _, KF _ ?_, hrun, hended, _, _, rfl, ?_, ⟨_, rfl⟩, hW, hsame.mono (by decide) (by decide)⟩
                · show Steps p.tables e below (T774.setTop (mkF m 47 #[.val (.ref a1), .val (.int (4 : Int32)), .val (.int (4 : Int32)), .val (.ref b738), .val (.int (0 : Int32)), .val (.int (0 : Int32))] [(.int q0)])) _
                  refine XS.istore X774.here hx rfl (hb hby d3_47) rfl (l' := #[.val (.ref a1), .val (.int (4 : Int32)), .val (.int (4 : Int32)), .val (.ref b738), .val (.int q0), .val (.int (0 : Int32))]) rfl ?_
                  refine XS.iinc X774.here hx rfl (hb hby d3_49) rfl (l' := #[.val (.ref a1), .val (.int (4 : Int32)), .val (.int (4 : Int32)), .val (.ref b738), .val (.int q0), .val (.int (-1 : Int32))]) rfl ?_
                  refine XS.goto X774.here hx rfl (pc0 := 52) (pc' := 32) rfl (hb hby d3_52) (by decide) (by decide) ?_
                  refine XS.iload X774.here hx rfl (hb hby d3_32) rfl ?_
                  show Steps p.tables e below (T774.setTop (mkF m 34 #[.val (.ref a1), .val (.int (4 : Int32)), .val (.int (4 : Int32)), .val (.ref b738), .val (.int q0), .val (.int (-1 : Int32))] [(.int (-1 : Int32))])) _
                  refine XS.ifYes X774.here hx rfl (pc0 := 34) (pc' := 55) rfl (hb hby d3_34) rfl ((if0 _ _).trans (tlt (by decide)).1) (by decide) (by decide) ?_
                  refine XS.aloadN X774.here hx rfl (hb hby d3_55) rfl rfl ?_
                  show Steps p.tables e below (T774.setTop (mkF m 56 #[.val (.ref a1), .val (.int (4 : Int32)), .val (.int (4 : Int32)), .val (.ref b738), .val (.int q0), .val (.int (-1 : Int32))] [(.ref b738)])) _
                  exact own_retA X774 hx Bd.returns rfl rfl rfl (hb hby d3_56) hr
                · show Q3 Z (4 : Int32) [(.int q0), (.int (0 : Int32)), (.int (1 : Int32)), (.int q3), (.int (2 : Int32))] h0 n0 _ T774.heap _
                  rw [e774]
                  exact ⟨_, _, _, _, rfl, N779, KP778, sz_b738, V774, ⟨by decide, by decide⟩, ⟨by decide, by decide⟩, rfl, Or.inr ⟨0, q0, 0, by decide, rfl, ⟨by decide, by decide⟩, rfl, Or.inl ⟨rfl, hq0⟩⟩, Or.inr ⟨1, 0, 0, by decide, rfl, ⟨by decide, by decide⟩, rfl, Or.inr ⟨by decide, ⟨by decide, by decide⟩, rfl, rfl⟩⟩, Or.inr ⟨2, 1, 1, by decide, rfl, ⟨by decide, by decide⟩, rfl, Or.inr ⟨by decide, ⟨by decide, by decide⟩, rfl, rfl⟩⟩, Or.inr ⟨4, 2, 2, by decide, rfl, ⟨by decide, by decide⟩, rfl, Or.inr ⟨by decide, ⟨by decide, by decide⟩, rfl, rfl⟩⟩, Or.inl (by decide)⟩
      · have K783 : ∀ t, Steps p.tables e below (s₁.setTop (mkF m 6 #[.val (.ref a1), .val (.int (4 : Int32)), .val (.int (2 : Int32)), .val (.int (3 : Int32)), .unset, .unset] [(.int (3 : Int32)), (.ref a1)])) t → Steps p.tables e below G t := by
          intro t k
          refine K514 t ?_
          show Steps p.tables e below (s₁.setTop (mkF m 4 #[.val (.ref a1), .val (.int (4 : Int32)), .val (.int (2 : Int32)), .val (.int (3 : Int32)), .unset, .unset] [])) _
          refine XS.aloadN X0.here hx rfl (hb hby d3_4) rfl rfl ?_
          refine XS.iloadN X0.here hx rfl (hb hby d3_5) rfl ?_
          show Steps p.tables e below (s₁.setTop (mkF m 6 #[.val (.ref a1), .val (.int (4 : Int32)), .val (.int (2 : Int32)), .val (.int (3 : Int32)), .unset, .unset] [(.int (3 : Int32)), (.ref a1)])) _
          exact k
        obtain ⟨cl784, Ar784, qc784, S784, M784, Ha784, Ga784⟩ := id V1
        have hin784 : ¬ ((3 : Int32) < 0 ∨ cl784.slots.size ≤ ((3 : Int32)).toNatClampNeg) := inb_of S784 ⟨by decide, by decide⟩
        have hat784 : cl784.slots[((3 : Int32)).toNatClampNeg]? = some (.int q3) := Ha784.at hin784 rfl
        have K785 : ∀ t, Steps p.tables e below (s₁.setTop (mkF m 7 #[.val (.ref a1), .val (.int (4 : Int32)), .val (.int (2 : Int32)), .val (.int (3 : Int32)), .unset, .unset] [(.int q3)])) t → Steps p.tables e below G t := fun t k => K783 t (X0.iaload hx (j := (3 : Int32)) (v := (.int q3)) (by rw [e0]; exact Ar784.1) (State.isArrayOf_alike hZ.alike Ar784.2.1) Ar784.2.2 hin784 hat784 (g := (mkF m 6 #[.val (.ref a1), .val (.int (4 : Int32)), .val (.int (2 : Int32)), .val (.int (3 : Int32)), .unset, .unset] [(.int (3 : Int32)), (.ref a1)])) rfl rfl (hb hby d3_6) _ k)
        by_cases hc786 : q3 < (0 : Int32)
        · have K787 : ∀ t, Steps p.tables e below (s₁.setTop (mkF m 21 #[.val (.ref a1), .val (.int (4 : Int32)), .val (.int (2 : Int32)), .val (.int (3 : Int32)), .unset, .unset] [(.int (2 : Int32))])) t → Steps p.tables e below G t := by
            intro t k
            refine K785 t ?_
            show Steps p.tables e below (s₁.setTop (mkF m 7 #[.val (.ref a1), .val (.int (4 : Int32)), .val (.int (2 : Int32)), .val (.int (3 : Int32)), .unset, .unset] [(.int q3)])) _
            refine XS.ifYes X0.here hx rfl (pc0 := 7) (pc' := 20) rfl (hb hby d3_7) rfl ((if0 _ _).trans (tlt hc786).1) (by decide) (by decide) ?_
            refine XS.iloadN X0.here hx rfl (hb hby d3_20) rfl ?_
            show Steps p.tables e below (s₁.setTop (mkF m 21 #[.val (.ref a1), .val (.int (4 : Int32)), .val (.int (2 : Int32)), .val (.int (3 : Int32)), .unset, .unset] [(.int (2 : Int32))])) _
            exact k
          obtain ⟨T788, h788, kn788, X788, e788, E788, A788, st788⟩ := newP X0 hx hZ (hw _ (List.mem_of_getElem? (i := 8) rfl)) e0 (g := (mkF m 21 #[.val (.ref a1), .val (.int (4 : Int32)), .val (.int (2 : Int32)), .val (.int (3 : Int32)), .unset, .unset] [(.int (2 : Int32))])) rfl (hb hby d3_21) rfl (by decide) (cap := 2) (by decide) (by decide) (by decide) (by decide)
          obtain ⟨b788, g788⟩ : ∃ z, z = h0.size := ⟨_, rfl⟩
          rw [← g788] at A788 st788
          have ne_a1_b788 : a1 ≠ b788 := Nat.ne_of_lt (Nat.lt_of_lt_of_le V1.lt (Nat.le_of_eq g788.symm))
          have g_b788 : n0 ≤ b788 := Nat.le_trans Z0 (Nat.le_of_eq g788.symm)
          have sz_b788 : h0.size ≤ b788 := Nat.le_trans KP0.1 (Nat.le_of_eq g788.symm)
          have f789 := V1.ext E788
          have Z790 : n0 ≤ h788.size := Nat.le_trans Z0 E788.1
          have KP791 : Keep h0 h788 [] := KP0.ext E788
          have K792 : ∀ t, Steps p.tables e below (T788.setTop (mkF m 23 #[.val (.ref a1), .val (.int (4 : Int32)), .val (.int (2 : Int32)), .val (.int (3 : Int32)), .unset, .unset] [(.ref b788)])) t → Steps p.tables e below G t := fun t k => K787 t (st788 t k)
          have V788 : Arv Z h788 b788 kn788 .int (2 : Int32) [(.int (0 : Int32)), (.int (0 : Int32))] (.int (0 : Int32)) := (Arv.new A788 (by decide)).pad (pad_rep [] (.int (0 : Int32)) 2)
          have K793 : ∀ t, Steps p.tables e below (T788.setTop (mkF m 42 #[.val (.ref a1), .val (.int (4 : Int32)), .val (.int (2 : Int32)), .val (.ref b788), .val (.int (4 : Int32)), .val (.int (1 : Int32))] [(.int (4 : Int32)), (.int (1 : Int32)), (.ref b788)])) t → Steps p.tables e below G t := by
            intro t k
            refine K792 t ?_
            show Steps p.tables e below (T788.setTop (mkF m 23 #[.val (.ref a1), .val (.int (4 : Int32)), .val (.int (2 : Int32)), .val (.int (3 : Int32)), .unset, .unset] [(.ref b788)])) _
            refine XS.astoreN X788.here hx rfl (hb hby d3_23) rfl rfl (l' := #[.val (.ref a1), .val (.int (4 : Int32)), .val (.int (2 : Int32)), .val (.ref b788), .unset, .unset]) rfl ?_
            refine XS.iloadN X788.here hx rfl (hb hby d3_24) rfl ?_
            refine XS.istore X788.here hx rfl (hb hby d3_25) rfl (l' := #[.val (.ref a1), .val (.int (4 : Int32)), .val (.int (2 : Int32)), .val (.ref b788), .val (.int (4 : Int32)), .unset]) rfl ?_
            refine XS.iloadN X788.here hx rfl (hb hby d3_27) rfl ?_
            show Steps p.tables e below (T788.setTop (mkF m 28 #[.val (.ref a1), .val (.int (4 : Int32)), .val (.int (2 : Int32)), .val (.ref b788), .val (.int (4 : Int32)), .unset] [(.int (2 : Int32))])) _
            refine XS.iconst X788.here hx rfl (hb hby d3_28) ?_
            refine XS.isub X788.here hx rfl (hb hby d3_29) rfl ?_
            refine XS.istore X788.here hx rfl (hb hby d3_30) rfl (l' := #[.val (.ref a1), .val (.int (4 : Int32)), .val (.int (2 : Int32)), .val (.ref b788), .val (.int (4 : Int32)), .val (.int (1 : Int32))]) rfl ?_
            refine XS.iload X788.here hx rfl (hb hby d3_32) rfl ?_
            show Steps p.tables e below (T788.setTop (mkF m 34 #[.val (.ref a1), .val (.int (4 : Int32)), .val (.int (2 : Int32)), .val (.ref b788), .val (.int (4 : Int32)), .val (.int (1 : Int32))] [(.int (1 : Int32))])) _
            refine XS.ifNo X788.here hx rfl (hb hby d3_34) rfl ((if0 _ _).trans (flt (by decide)).1) ?_
            refine XS.aloadN X788.here hx rfl (hb hby d3_37) rfl rfl ?_
            refine XS.iload X788.here hx rfl (hb hby d3_38) rfl ?_
            refine XS.iload X788.here hx rfl (hb hby d3_40) rfl ?_
            show Steps p.tables e below (T788.setTop (mkF m 42 #[.val (.ref a1), .val (.int (4 : Int32)), .val (.int (2 : Int32)), .val (.ref b788), .val (.int (4 : Int32)), .val (.int (1 : Int32))] [(.int (4 : Int32)), (.int (1 : Int32)), (.ref b788)])) _
            exact k
          obtain ⟨cl794, Ar794, qc794, S794, M794, Ha794, Ga794⟩ := id V788
          have hin794 : ¬ ((1 : Int32) < 0 ∨ cl794.slots.size ≤ ((1 : Int32)).toNatClampNeg) := inb_of S794 ⟨by decide, by decide⟩
          obtain ⟨T794, h794, X794, e794, W794, st794⟩ := stI X788 hx hZ e788 Ar794 (j := (1 : Int32)) hin794 (g := (mkF m 42 #[.val (.ref a1), .val (.int (4 : Int32)), .val (.int (2 : Int32)), .val (.ref b788), .val (.int (4 : Int32)), .val (.int (1 : Int32))] [(.int (4 : Int32)), (.int (1 : Int32)), (.ref b788)])) rfl rfl (hb hby d3_42)
          have V794 : Arv Z h794 b788 kn788 .int (2 : Int32) [(.int (0 : Int32)), (.int (4 : Int32))] (.int (0 : Int32)) := Arv.set Ar794 qc794 S794 M794 Ha794 Ga794 rfl W794 1 rfl (Nat.le_of_ble_eq_true rfl)
          have K795 : ∀ t, Steps p.tables e below (T794.setTop (mkF m 43 #[.val (.ref a1), .val (.int (4 : Int32)), .val (.int (2 : Int32)), .val (.ref b788), .val (.int (4 : Int32)), .val (.int (1 : Int32))] [])) t → Steps p.tables e below G t := fun t k => K793 t (st794 t k)
          have f796 := f789.other W794 ne_a1_b788
          have Z797 : n0 ≤ h794.size := Nat.le_trans Z790 (Keep.of_wr W794).1
          have KP798 : Keep h0 h794 [] := KP791.wr W794 (Or.inr sz_b788)
          have N799 := Fr.snoc X794 N0 g_b788
          have K800 : ∀ t, Steps p.tables e below (T794.setTop (mkF m 46 #[.val (.ref a1), .val (.int (4 : Int32)), .val (.int (2 : Int32)), .val (.ref b788), .val (.int (4 : Int32)), .val (.int (1 : Int32))] [(.int (4 : Int32)), (.ref a1)])) t → Steps p.tables e below G t := by
            intro t k
            refine K795 t ?_
            show Steps p.tables e below (T794.setTop (mkF m 43 #[.val (.ref a1), .val (.int (4 : Int32)), .val (.int (2 : Int32)), .val (.ref b788), .val (.int (4 : Int32)), .val (.int (1 : Int32))] [])) _
            refine XS.aloadN X794.here hx rfl (hb hby d3_43) rfl rfl ?_
            refine XS.iload X794.here hx rfl (hb hby d3_44) rfl ?_
            show Steps p.tables e below (T794.setTop (mkF m 46 #[.val (.ref a1), .val (.int (4 : Int32)), .val (.int (2 : Int32)), .val (.ref b788), .val (.int (4 : Int32)), .val (.int (1 : Int32))] [(.int (4 : Int32)), (.ref a1)])) _
            exact k
          obtain ⟨cl801, Ar801, qc801, S801, M801, Ha801, Ga801⟩ := id f796
          have hin801 : ¬ ((4 : Int32) < 0 ∨ cl801.slots.size ≤ ((4 : Int32)).toNatClampNeg) := inb_of S801 ⟨by decide, by decide⟩
          have hat801 : cl801.slots[((4 : Int32)).toNatClampNeg]? = some (.int (3 : Int32)) := Ha801.at hin801 rfl
          have K802 : ∀ t, Steps p.tables e below (T794.setTop (mkF m 47 #[.val (.ref a1), .val (.int (4 : Int32)), .val (.int (2 : Int32)), .val (.ref b788), .val (.int (4 : Int32)), .val (.int (1 : Int32))] [(.int (3 : Int32))])) t → Steps p.tables e below G t := fun t k => K800 t (X794.iaload hx (j := (4 : Int32)) (v := (.int (3 : Int32))) (by rw [e794]; exact Ar801.1) (State.isArrayOf_alike hZ.alike Ar801.2.1) Ar801.2.2 hin801 hat801 (g := (mkF m 46 #[.val (.ref a1), .val (.int (4 : Int32)), .val (.int (2 : Int32)), .val (.ref b788), .val (.int (4 : Int32)), .val (.int (1 : Int32))] [(.int (4 : Int32)), (.ref a1)])) rfl rfl (hb hby d3_46) _ k)
          have K803 : ∀ t, Steps p.tables e below (T794.setTop (mkF m 42 #[.val (.ref a1), .val (.int (4 : Int32)), .val (.int (2 : Int32)), .val (.ref b788), .val (.int (3 : Int32)), .val (.int (0 : Int32))] [(.int (3 : Int32)), (.int (0 : Int32)), (.ref b788)])) t → Steps p.tables e below G t := by
            intro t k
            refine K802 t ?_
            show Steps p.tables e below (T794.setTop (mkF m 47 #[.val (.ref a1), .val (.int (4 : Int32)), .val (.int (2 : Int32)), .val (.ref b788), .val (.int (4 : Int32)), .val (.int (1 : Int32))] [(.int (3 : Int32))])) _
            refine XS.istore X794.here hx rfl (hb hby d3_47) rfl (l' := #[.val (.ref a1), .val (.int (4 : Int32)), .val (.int (2 : Int32)), .val (.ref b788), .val (.int (3 : Int32)), .val (.int (1 : Int32))]) rfl ?_
            refine XS.iinc X794.here hx rfl (hb hby d3_49) rfl (l' := #[.val (.ref a1), .val (.int (4 : Int32)), .val (.int (2 : Int32)), .val (.ref b788), .val (.int (3 : Int32)), .val (.int (0 : Int32))]) rfl ?_
            refine XS.goto X794.here hx rfl (pc0 := 52) (pc' := 32) rfl (hb hby d3_52) (by decide) (by decide) ?_
            refine XS.iload X794.here hx rfl (hb hby d3_32) rfl ?_
            show Steps p.tables e below (T794.setTop (mkF m 34 #[.val (.ref a1), .val (.int (4 : Int32)), .val (.int (2 : Int32)), .val (.ref b788), .val (.int (3 : Int32)), .val (.int (0 : Int32))] [(.int (0 : Int32))])) _
            refine XS.ifNo X794.here hx rfl (hb hby d3_34) rfl ((if0 _ _).trans (flt (by decide)).1) ?_
            refine XS.aloadN X794.here hx rfl (hb hby d3_37) rfl rfl ?_
            refine XS.iload X794.here hx rfl (hb hby d3_38) rfl ?_
            refine XS.iload X794.here hx rfl (hb hby d3_40) rfl ?_
            show Steps p.tables e below (T794.setTop (mkF m 42 #[.val (.ref a1), .val (.int (4 : Int32)), .val (.int (2 : Int32)), .val (.ref b788), .val (.int (3 : Int32)), .val (.int (0 : Int32))] [(.int (3 : Int32)), (.int (0 : Int32)), (.ref b788)])) _
            exact k
          obtain ⟨cl804, Ar804, qc804, S804, M804, Ha804, Ga804⟩ := id V794
          have hin804 : ¬ ((0 : Int32) < 0 ∨ cl804.slots.size ≤ ((0 : Int32)).toNatClampNeg) := inb_of S804 ⟨by decide, by decide⟩
          obtain ⟨T804, h804, X804, e804, W804, st804⟩ := stI X794 hx hZ e794 Ar804 (j := (0 : Int32)) hin804 (g := (mkF m 42 #[.val (.ref a1), .val (.int (4 : Int32)), .val (.int (2 : Int32)), .val (.ref b788), .val (.int (3 : Int32)), .val (.int (0 : Int32))] [(.int (3 : Int32)), (.int (0 : Int32)), (.ref b788)])) rfl rfl (hb hby d3_42)
          have V804 : Arv Z h804 b788 kn788 .int (2 : Int32) [(.int (3 : Int32)), (.int (4 : Int32))] (.int (0 : Int32)) := Arv.set Ar804 qc804 S804 M804 Ha804 Ga804 rfl W804 0 rfl (Nat.le_of_ble_eq_true rfl)
          have K805 : ∀ t, Steps p.tables e below (T804.setTop (mkF m 43 #[.val (.ref a1), .val (.int (4 : Int32)), .val (.int (2 : Int32)), .val (.ref b788), .val (.int (3 : Int32)), .val (.int (0 : Int32))] [])) t → Steps p.tables e below G t := fun t k => K803 t (st804 t k)
          have f806 := f796.other W804 ne_a1_b788
          have Z807 : n0 ≤ h804.size := Nat.le_trans Z797 (Keep.of_wr W804).1
          have KP808 : Keep h0 h804 [] := KP798.wr W804 (Or.inr sz_b788)
          have N809 := Fr.snoc X804 N799 g_b788
          have K810 : ∀ t, Steps p.tables e below (T804.setTop (mkF m 46 #[.val (.ref a1), .val (.int (4 : Int32)), .val (.int (2 : Int32)), .val (.ref b788), .val (.int (3 : Int32)), .val (.int (0 : Int32))] [(.int (3 : Int32)), (.ref a1)])) t → Steps p.tables e below G t := by
            intro t k
            refine K805 t ?_
            show Steps p.tables e below (T804.setTop (mkF m 43 #[.val (.ref a1), .val (.int (4 : Int32)), .val (.int (2 : Int32)), .val (.ref b788), .val (.int (3 : Int32)), .val (.int (0 : Int32))] [])) _
            refine XS.aloadN X804.here hx rfl (hb hby d3_43) rfl rfl ?_
            refine XS.iload X804.here hx rfl (hb hby d3_44) rfl ?_
            show Steps p.tables e below (T804.setTop (mkF m 46 #[.val (.ref a1), .val (.int (4 : Int32)), .val (.int (2 : Int32)), .val (.ref b788), .val (.int (3 : Int32)), .val (.int (0 : Int32))] [(.int (3 : Int32)), (.ref a1)])) _
            exact k
          obtain ⟨cl811, Ar811, qc811, S811, M811, Ha811, Ga811⟩ := id f806
          have hin811 : ¬ ((3 : Int32) < 0 ∨ cl811.slots.size ≤ ((3 : Int32)).toNatClampNeg) := inb_of S811 ⟨by decide, by decide⟩
          have hat811 : cl811.slots[((3 : Int32)).toNatClampNeg]? = some (.int q3) := Ha811.at hin811 rfl
          have K812 : ∀ t, Steps p.tables e below (T804.setTop (mkF m 47 #[.val (.ref a1), .val (.int (4 : Int32)), .val (.int (2 : Int32)), .val (.ref b788), .val (.int (3 : Int32)), .val (.int (0 : Int32))] [(.int q3)])) t → Steps p.tables e below G t := fun t k => K810 t (X804.iaload hx (j := (3 : Int32)) (v := (.int q3)) (by rw [e804]; exact Ar811.1) (State.isArrayOf_alike hZ.alike Ar811.2.1) Ar811.2.2 hin811 hat811 (g := (mkF m 46 #[.val (.ref a1), .val (.int (4 : Int32)), .val (.int (2 : Int32)), .val (.ref b788), .val (.int (3 : Int32)), .val (.int (0 : Int32))] [(.int (3 : Int32)), (.ref a1)])) rfl rfl (hb hby d3_46) _ k)
          obtain ⟨fs, hr, hrun, hended, hW, hsame⟩ := X804.leave (v := some (.ref b788)) (fun h => by rw [Bd.returns] at h; cases h)
          have KF := K812
          rw [hG] at KF
          refine ⟨_, _, KF _ ?_, hrun, hended, _, _, rfl, ?_, ⟨_, rfl⟩, hW, hsame.mono (by decide) (by decide)⟩
          · show Steps p.tables e below (T804.setTop (mkF m 47 #[.val (.ref a1), .val (.int (4 : Int32)), .val (.int (2 : Int32)), .val (.ref b788), .val (.int (3 : Int32)), .val (.int (0 : Int32))] [(.int q3)])) _
            refine XS.istore X804.here hx rfl (hb hby d3_47) rfl (l' := #[.val (.ref a1), .val (.int (4 : Int32)), .val (.int (2 : Int32)), .val (.ref b788), .val (.int q3), .val (.int (0 : Int32))]) rfl ?_
            refine XS.iinc X804.here hx rfl (hb hby d3_49) rfl (l' := #[.val (.ref a1), .val (.int (4 : Int32)), .val (.int (2 : Int32)), .val (.ref b788), .val (.int q3), .val (.int (-1 : Int32))]) rfl ?_
            refine XS.goto X804.here hx rfl (pc0 := 52) (pc' := 32) rfl (hb hby d3_52) (by decide) (by decide) ?_
            refine XS.iload X804.here hx rfl (hb hby d3_32) rfl ?_
            show Steps p.tables e below (T804.setTop (mkF m 34 #[.val (.ref a1), .val (.int (4 : Int32)), .val (.int (2 : Int32)), .val (.ref b788), .val (.int q3), .val (.int (-1 : Int32))] [(.int (-1 : Int32))])) _
            refine XS.ifYes X804.here hx rfl (pc0 := 34) (pc' := 55) rfl (hb hby d3_34) rfl ((if0 _ _).trans (tlt (by decide)).1) (by decide) (by decide) ?_
            refine XS.aloadN X804.here hx rfl (hb hby d3_55) rfl rfl ?_
            show Steps p.tables e below (T804.setTop (mkF m 56 #[.val (.ref a1), .val (.int (4 : Int32)), .val (.int (2 : Int32)), .val (.ref b788), .val (.int q3), .val (.int (-1 : Int32))] [(.ref b788)])) _
            exact own_retA X804 hx Bd.returns rfl rfl rfl (hb hby d3_56) hr
          · show Q3 Z (4 : Int32) [(.int q0), (.int q1), (.int q2), (.int q3), (.int (3 : Int32))] h0 n0 _ T804.heap _
            rw [e804]
            exact ⟨_, _, _, _, rfl, N809, KP808, sz_b788, V804, ⟨by decide, by decide⟩, ⟨by decide, by decide⟩, rfl, Or.inr ⟨3, q3, 0, by decide, rfl, ⟨by decide, by decide⟩, rfl, Or.inl ⟨rfl, hc786⟩⟩, Or.inr ⟨4, 3, 3, by decide, rfl, ⟨by decide, by decide⟩, rfl, Or.inr ⟨by decide, ⟨by decide, by decide⟩, rfl, rfl⟩⟩, Or.inl (by decide), Or.inl (by decide), Or.inl (by decide)⟩
        · have K813 : ∀ t, Steps p.tables e below (s₁.setTop (mkF m 15 #[.val (.ref a1), .val (.int (4 : Int32)), .val (.int (3 : Int32)), .val (.int (3 : Int32)), .unset, .unset] [(.int (3 : Int32)), (.ref a1)])) t → Steps p.tables e below G t := by
            intro t k
            refine K785 t ?_
            show Steps p.tables e below (s₁.setTop (mkF m 7 #[.val (.ref a1), .val (.int (4 : Int32)), .val (.int (2 : Int32)), .val (.int (3 : Int32)), .unset, .unset] [(.int q3)])) _
            refine XS.ifNo X0.here hx rfl (hb hby d3_7) rfl ((if0 _ _).trans (flt hc786).1) ?_
            refine XS.iinc X0.here hx rfl (hb hby d3_10) rfl (l' := #[.val (.ref a1), .val (.int (4 : Int32)), .val (.int (3 : Int32)), .val (.int (3 : Int32)), .unset, .unset]) rfl ?_
            refine XS.aloadN X0.here hx rfl (hb hby d3_13) rfl rfl ?_
            refine XS.iloadN X0.here hx rfl (hb hby d3_14) rfl ?_
            show Steps p.tables e below (s₁.setTop (mkF m 15 #[.val (.ref a1), .val (.int (4 : Int32)), .val (.int (3 : Int32)), .val (.int (3 : Int32)), .unset, .unset] [(.int (3 : Int32)), (.ref a1)])) _
            exact k
          obtain ⟨cl814, Ar814, qc814, S814, M814, Ha814, Ga814⟩ := id V1
          have hin814 : ¬ ((3 : Int32) < 0 ∨ cl814.slots.size ≤ ((3 : Int32)).toNatClampNeg) := inb_of S814 ⟨by decide, by decide⟩
          have hat814 : cl814.slots[((3 : Int32)).toNatClampNeg]? = some (.int q3) := Ha814.at hin814 rfl
          have K815 : ∀ t, Steps p.tables e below (s₁.setTop (mkF m 16 #[.val (.ref a1), .val (.int (4 : Int32)), .val (.int (3 : Int32)), .val (.int (3 : Int32)), .unset, .unset] [(.int q3)])) t → Steps p.tables e below G t := fun t k => K813 t (X0.iaload hx (j := (3 : Int32)) (v := (.int q3)) (by rw [e0]; exact Ar814.1) (State.isArrayOf_alike hZ.alike Ar814.2.1) Ar814.2.2 hin814 hat814 (g := (mkF m 15 #[.val (.ref a1), .val (.int (4 : Int32)), .val (.int (3 : Int32)), .val (.int (3 : Int32)), .unset, .unset] [(.int (3 : Int32)), (.ref a1)])) rfl rfl (hb hby d3_15) _ k)
          have K816 : ∀ t, Steps p.tables e below (s₁.setTop (mkF m 4 #[.val (.ref a1), .val (.int (4 : Int32)), .val (.int (3 : Int32)), .val (.int q3), .unset, .unset] [])) t → Steps p.tables e below G t := by
            intro t k
            refine K815 t ?_
            show Steps p.tables e below (s₁.setTop (mkF m 16 #[.val (.ref a1), .val (.int (4 : Int32)), .val (.int (3 : Int32)), .val (.int (3 : Int32)), .unset, .unset] [(.int q3)])) _
            refine XS.istoreN X0.here hx rfl (hb hby d3_16) rfl (l' := #[.val (.ref a1), .val (.int (4 : Int32)), .val (.int (3 : Int32)), .val (.int q3), .unset, .unset]) rfl ?_
            refine XS.goto X0.here hx rfl (pc0 := 17) (pc' := 4) rfl (hb hby d3_17) (by decide) (by decide) ?_
            show Steps p.tables e below (s₁.setTop (mkF m 4 #[.val (.ref a1), .val (.int (4 : Int32)), .val (.int (3 : Int32)), .val (.int q3), .unset, .unset] [])) _
            exact k
          rcases own_lt3 hc786 hq3 with rfl | rfl | rfl
          · have K817 : ∀ t, Steps p.tables e below (s₁.setTop (mkF m 6 #[.val (.ref a1), .val (.int (4 : Int32)), .val (.int (3 : Int32)), .val (.int (0 : Int32)), .unset, .unset] [(.int (0 : Int32)), (.ref a1)])) t → Steps p.tables e below G t := by
              intro t k
              refine K816 t ?_
              show Steps p.tables e below (s₁.setTop (mkF m 4 #[.val (.ref a1), .val (.int (4 : Int32)), .val (.int (3 : Int32)), .val (.int (0 : Int32)), .unset, .unset] [])) _
              refine XS.aloadN X0.here hx rfl (hb hby d3_4) rfl rfl ?_
              refine XS.iloadN X0.here hx rfl (hb hby d3_5) rfl ?_
              show Steps p.tables e below (s₁.setTop (mkF m 6 #[.val (.ref a1), .val (.int (4 : Int32)), .val (.int (3 : Int32)), .val (.int (0 : Int32)), .unset, .unset] [(.int (0 : Int32)), (.ref a1)])) _
              exact k
            obtain ⟨cl818, Ar818, qc818, S818, M818, Ha818, Ga818⟩ := id V1
            have hin818 : ¬ ((0 : Int32) < 0 ∨ cl818.slots.size ≤ ((0 : Int32)).toNatClampNeg) := inb_of S818 ⟨by decide, by decide⟩
            have hat818 : cl818.slots[((0 : Int32)).toNatClampNeg]? = some (.int q0) := Ha818.at hin818 rfl
            have K819 : ∀ t, Steps p.tables e below (s₁.setTop (mkF m 7 #[.val (.ref a1), .val (.int (4 : Int32)), .val (.int (3 : Int32)), .val (.int (0 : Int32)), .unset, .unset] [(.int q0)])) t → Steps p.tables e below G t := fun t k => K817 t (X0.iaload hx (j := (0 : Int32)) (v := (.int q0)) (by rw [e0]; exact Ar818.1) (State.isArrayOf_alike hZ.alike Ar818.2.1) Ar818.2.2 hin818 hat818 (g := (mkF m 6 #[.val (.ref a1), .val (.int (4 : Int32)), .val (.int (3 : Int32)), .val (.int (0 : Int32)), .unset, .unset] [(.int (0 : Int32)), (.ref a1)])) rfl rfl (hb hby d3_6) _ k)
            have K820 : ∀ t, Steps p.tables e below (s₁.setTop (mkF m 21 #[.val (.ref a1), .val (.int (4 : Int32)), .val (.int (3 : Int32)), .val (.int (0 : Int32)), .unset, .unset] [(.int (3 : Int32))])) t → Steps p.tables e below G t := by
              intro t k
              refine K819 t ?_
              show Steps p.tables e below (s₁.setTop (mkF m 7 #[.val (.ref a1), .val (.int (4 : Int32)), .val (.int (3 : Int32)), .val (.int (0 : Int32)), .unset, .unset] [(.int q0)])) _
              refine XS.ifYes X0.here hx rfl (pc0 := 7) (pc' := 20) rfl (hb hby d3_7) rfl ((if0 _ _).trans (tlt hq0).1) (by decide) (by decide) ?_
              refine XS.iloadN X0.here hx rfl (hb hby d3_20) rfl ?_
              show Steps p.tables e below (s₁.setTop (mkF m 21 #[.val (.ref a1), .val (.int (4 : Int32)), .val (.int (3 : Int32)), .val (.int (0 : Int32)), .unset, .unset] [(.int (3 : Int32))])) _
              exact k
            obtain ⟨T821, h821, kn821, X821, e821, E821, A821, st821⟩ := newP X0 hx hZ (hw _ (List.mem_of_getElem? (i := 8) rfl)) e0 (g := (mkF m 21 #[.val (.ref a1), .val (.int (4 : Int32)), .val (.int (3 : Int32)), .val (.int (0 : Int32)), .unset, .unset] [(.int (3 : Int32))])) rfl (hb hby d3_21) rfl (by decide) (cap := 3) (by decide) (by decide) (by decide) (by decide)
            obtain ⟨b821, g821⟩ : ∃ z, z = h0.size := ⟨_, rfl⟩
            rw [← g821] at A821 st821
            have ne_a1_b821 : a1 ≠ b821 := Nat.ne_of_lt (Nat.lt_of_lt_of_le V1.lt (Nat.le_of_eq g821.symm))
            have g_b821 : n0 ≤ b821 := Nat.le_trans Z0 (Nat.le_of_eq g821.symm)
            have sz_b821 : h0.size ≤ b821 := Nat.le_trans KP0.1 (Nat.le_of_eq g821.symm)
            have f822 := V1.ext E821
            have Z823 : n0 ≤ h821.size := Nat.le_trans Z0 E821.1
            have KP824 : Keep h0 h821 [] := KP0.ext E821
            have K825 : ∀ t, Steps p.tables e below (T821.setTop (mkF m 23 #[.val (.ref a1), .val (.int (4 : Int32)), .val (.int (3 : Int32)), .val (.int (0 : Int32)), .unset, .unset] [(.ref b821)])) t → Steps p.tables e below G t := fun t k => K820 t (st821 t k)
            have V821 : Arv Z h821 b821 kn821 .int (3 : Int32) [(.int (0 : Int32)), (.int (0 : Int32)), (.int (0 : Int32))] (.int (0 : Int32)) := (Arv.new A821 (by decide)).pad (pad_rep [] (.int (0 : Int32)) 3)
            have K826 : ∀ t, Steps p.tables e below (T821.setTop (mkF m 42 #[.val (.ref a1), .val (.int (4 : Int32)), .val (.int (3 : Int32)), .val (.ref b821), .val (.int (4 : Int32)), .val (.int (2 : Int32))] [(.int (4 : Int32)), (.int (2 : Int32)), (.ref b821)])) t → Steps p.tables e below G t := by
              intro t k
              refine K825 t ?_
              show Steps p.tables e below (T821.setTop (mkF m 23 #[.val (.ref a1), .val (.int (4 : Int32)), .val (.int (3 : Int32)), .val (.int (0 : Int32)), .unset, .unset] [(.ref b821)])) _
              refine XS.astoreN X821.here hx rfl (hb hby d3_23) rfl rfl (l' := #[.val (.ref a1), .val (.int (4 : Int32)), .val (.int (3 : Int32)), .val (.ref b821), .unset, .unset]) rfl ?_
              refine XS.iloadN X821.here hx rfl (hb hby d3_24) rfl ?_
              refine XS.istore X821.here hx rfl (hb hby d3_25) rfl (l' := #[.val (.ref a1), .val (.int (4 : Int32)), .val (.int (3 : Int32)), .val (.ref b821), .val (.int (4 : Int32)), .unset]) rfl ?_
              refine XS.iloadN X821.here hx rfl (hb hby d3_27) rfl ?_
              show Steps p.tables e below (T821.setTop (mkF m 28 #[.val (.ref a1), .val (.int (4 : Int32)), .val (.int (3 : Int32)), .val (.ref b821), .val (.int (4 : Int32)), .unset] [(.int (3 : Int32))])) _
              refine XS.iconst X821.here hx rfl (hb hby d3_28) ?_
              refine XS.isub X821.here hx rfl (hb hby d3_29) rfl ?_
              refine XS.istore X821.here hx rfl (hb hby d3_30) rfl (l' := #[.val (.ref a1), .val (.int (4 : Int32)), .val (.int (3 : Int32)), .val (.ref b821), .val (.int (4 : Int32)), .val (.int (2 : Int32))]) rfl ?_
              refine XS.iload X821.here hx rfl (hb hby d3_32) rfl ?_
              show Steps p.tables e below (T821.setTop (mkF m 34 #[.val (.ref a1), .val (.int (4 : Int32)), .val (.int (3 : Int32)), .val (.ref b821), .val (.int (4 : Int32)), .val (.int (2 : Int32))] [(.int (2 : Int32))])) _
              refine XS.ifNo X821.here hx rfl (hb hby d3_34) rfl ((if0 _ _).trans (flt (by decide)).1) ?_
              refine XS.aloadN X821.here hx rfl (hb hby d3_37) rfl rfl ?_
              refine XS.iload X821.here hx rfl (hb hby d3_38) rfl ?_
              refine XS.iload X821.here hx rfl (hb hby d3_40) rfl ?_
              show Steps p.tables e below (T821.setTop (mkF m 42 #[.val (.ref a1), .val (.int (4 : Int32)), .val (.int (3 : Int32)), .val (.ref b821), .val (.int (4 : Int32)), .val (.int (2 : Int32))] [(.int (4 : Int32)), (.int (2 : Int32)), (.ref b821)])) _
              exact k
            obtain ⟨cl827, Ar827, qc827, S827, M827, Ha827, Ga827⟩ := id V821
            have hin827 : ¬ ((2 : Int32) < 0 ∨ cl827.slots.size ≤ ((2 : Int32)).toNatClampNeg) := inb_of S827 ⟨by decide, by decide⟩
            obtain ⟨T827, h827, X827, e827, W827, st827⟩ := stI X821 hx hZ e821 Ar827 (j := (2 : Int32)) hin827 (g := (mkF m 42 #[.val (.ref a1), .val (.int (4 : Int32)), .val (.int (3 : Int32)), .val (.ref b821), .val (.int (4 : Int32)), .val (.int (2 : Int32))] [(.int (4 : Int32)), (.int (2 : Int32)), (.ref b821)])) rfl rfl (hb hby d3_42)
            have V827 : Arv Z h827 b821 kn821 .int (3 : Int32) [(.int (0 : Int32)), (.int (0 : Int32)), (.int (4 : Int32))] (.int (0 : Int32)) := Arv.set Ar827 qc827 S827 M827 Ha827 Ga827 rfl W827 2 rfl (Nat.le_of_ble_eq_true rfl)
            have K828 : ∀ t, Steps p.tables e below (T827.setTop (mkF m 43 #[.val (.ref a1), .val (.int (4 : Int32)), .val (.int (3 : Int32)), .val (.ref b821), .val (.int (4 : Int32)), .val (.int (2 : Int32))] [])) t → Steps p.tables e below G t := fun t k => K826 t (st827 t k)
            have f829 := f822.other W827 ne_a1_b821
            have Z830 : n0 ≤ h827.size := Nat.le_trans Z823 (Keep.of_wr W827).1
            have KP831 : Keep h0 h827 [] := KP824.wr W827 (Or.inr sz_b821)
            have N832 := Fr.snoc X827 N0 g_b821
            have K833 : ∀ t, Steps p.tables e below (T827.setTop (mkF m 46 #[.val (.ref a1), .val (.int (4 : Int32)), .val (.int (3 : Int32)), .val (.ref b821), .val (.int (4 : Int32)), .val (.int (2 : Int32))] [(.int (4 : Int32)), (.ref a1)])) t → Steps p.tables e below G t := by
              intro t k
              refine K828 t ?_
              show Steps p.tables e below (T827.setTop (mkF m 43 #[.val (.ref a1), .val (.int (4 : Int32)), .val (.int (3 : Int32)), .val (.ref b821), .val (.int (4 : Int32)), .val (.int (2 : Int32))] [])) _
              refine XS.aloadN X827.here hx rfl (hb hby d3_43) rfl rfl ?_
              refine XS.iload X827.here hx rfl (hb hby d3_44) rfl ?_
              show Steps p.tables e below (T827.setTop (mkF m 46 #[.val (.ref a1), .val (.int (4 : Int32)), .val (.int (3 : Int32)), .val (.ref b821), .val (.int (4 : Int32)), .val (.int (2 : Int32))] [(.int (4 : Int32)), (.ref a1)])) _
              exact k
            obtain ⟨cl834, Ar834, qc834, S834, M834, Ha834, Ga834⟩ := id f829
            have hin834 : ¬ ((4 : Int32) < 0 ∨ cl834.slots.size ≤ ((4 : Int32)).toNatClampNeg) := inb_of S834 ⟨by decide, by decide⟩
            have hat834 : cl834.slots[((4 : Int32)).toNatClampNeg]? = some (.int (3 : Int32)) := Ha834.at hin834 rfl
            have K835 : ∀ t, Steps p.tables e below (T827.setTop (mkF m 47 #[.val (.ref a1), .val (.int (4 : Int32)), .val (.int (3 : Int32)), .val (.ref b821), .val (.int (4 : Int32)), .val (.int (2 : Int32))] [(.int (3 : Int32))])) t → Steps p.tables e below G t := fun t k => K833 t (X827.iaload hx (j := (4 : Int32)) (v := (.int (3 : Int32))) (by rw [e827]; exact Ar834.1) (State.isArrayOf_alike hZ.alike Ar834.2.1) Ar834.2.2 hin834 hat834 (g := (mkF m 46 #[.val (.ref a1), .val (.int (4 : Int32)), .val (.int (3 : Int32)), .val (.ref b821), .val (.int (4 : Int32)), .val (.int (2 : Int32))] [(.int (4 : Int32)), (.ref a1)])) rfl rfl (hb hby d3_46) _ k)
            have K836 : ∀ t, Steps p.tables e below (T827.setTop (mkF m 42 #[.val (.ref a1), .val (.int (4 : Int32)), .val (.int (3 : Int32)), .val (.ref b821), .val (.int (3 : Int32)), .val (.int (1 : Int32))] [(.int (3 : Int32)), (.int (1 : Int32)), (.ref b821)])) t → Steps p.tables e below G t := by
              intro t k
              refine K835 t ?_
              show Steps p.tables e below (T827.setTop (mkF m 47 #[.val (.ref a1), .val (.int (4 : Int32)), .val (.int (3 : Int32)), .val (.ref b821), .val (.int (4 : Int32)), .val (.int (2 : Int32))] [(.int (3 : Int32))])) _
              refine XS.istore X827.here hx rfl (hb hby d3_47) rfl (l' := #[.val (.ref a1), .val (.int (4 : Int32)), .val (.int (3 : Int32)), .val (.ref b821), .val (.int (3 : Int32)), .val (.int (2 : Int32))]) rfl ?_
              refine XS.iinc X827.here hx rfl (hb hby d3_49) rfl (l' := #[.val (.ref a1), .val (.int (4 : Int32)), .val (.int (3 : Int32)), .val (.ref b821), .val (.int (3 : Int32)), .val (.int (1 : Int32))]) rfl ?_
              refine XS.goto X827.here hx rfl (pc0 := 52) (pc' := 32) rfl (hb hby d3_52) (by decide) (by decide) ?_
              refine XS.iload X827.here hx rfl (hb hby d3_32) rfl ?_
              show Steps p.tables e below (T827.setTop (mkF m 34 #[.val (.ref a1), .val (.int (4 : Int32)), .val (.int (3 : Int32)), .val (.ref b821), .val (.int (3 : Int32)), .val (.int (1 : Int32))] [(.int (1 : Int32))])) _
              refine XS.ifNo X827.here hx rfl (hb hby d3_34) rfl ((if0 _ _).trans (flt (by decide)).1) ?_
              refine XS.aloadN X827.here hx rfl (hb hby d3_37) rfl rfl ?_
              refine XS.iload X827.here hx rfl (hb hby d3_38) rfl ?_
              refine XS.iload X827.here hx rfl (hb hby d3_40) rfl ?_
              show Steps p.tables e below (T827.setTop (mkF m 42 #[.val (.ref a1), .val (.int (4 : Int32)), .val (.int (3 : Int32)), .val (.ref b821), .val (.int (3 : Int32)), .val (.int (1 : Int32))] [(.int (3 : Int32)), (.int (1 : Int32)), (.ref b821)])) _
              exact k
            obtain ⟨cl837, Ar837, qc837, S837, M837, Ha837, Ga837⟩ := id V827
            have hin837 : ¬ ((1 : Int32) < 0 ∨ cl837.slots.size ≤ ((1 : Int32)).toNatClampNeg) := inb_of S837 ⟨by decide, by decide⟩
            obtain ⟨T837, h837, X837, e837, W837, st837⟩ := stI X827 hx hZ e827 Ar837 (j := (1 : Int32)) hin837 (g := (mkF m 42 #[.val (.ref a1), .val (.int (4 : Int32)), .val (.int (3 : Int32)), .val (.ref b821), .val (.int (3 : Int32)), .val (.int (1 : Int32))] [(.int (3 : Int32)), (.int (1 : Int32)), (.ref b821)])) rfl rfl (hb hby d3_42)
            have V837 : Arv Z h837 b821 kn821 .int (3 : Int32) [(.int (0 : Int32)), (.int (3 : Int32)), (.int (4 : Int32))] (.int (0 : Int32)) := Arv.set Ar837 qc837 S837 M837 Ha837 Ga837 rfl W837 1 rfl (Nat.le_of_ble_eq_true rfl)
            have K838 : ∀ t, Steps p.tables e below (T837.setTop (mkF m 43 #[.val (.ref a1), .val (.int (4 : Int32)), .val (.int (3 : Int32)), .val (.ref b821), .val (.int (3 : Int32)), .val (.int (1 : Int32))] [])) t → Steps p.tables e below G t := fun t k => K836 t (st837 t k)
            have f839 := f829.other W837 ne_a1_b821
            have Z840 : n0 ≤ h837.size := Nat.le_trans Z830 (Keep.of_wr W837).1
            have KP841 : Keep h0 h837 [] := KP831.wr W837 (Or.inr sz_b821)
            have N842 := Fr.snoc X837 N832 g_b821
            have K843 : ∀ t, Steps p.tables e below (T837.setTop (mkF m 46 #[.val (.ref a1), .val (.int (4 : Int32)), .val (.int (3 : Int32)), .val (.ref b821), .val (.int (3 : Int32)), .val (.int (1 : Int32))] [(.int (3 : Int32)), (.ref a1)])) t → Steps p.tables e below G t := by
              intro t k
              refine K838 t ?_
              show Steps p.tables e below (T837.setTop (mkF m 43 #[.val (.ref a1), .val (.int (4 : Int32)), .val (.int (3 : Int32)), .val (.ref b821), .val (.int (3 : Int32)), .val (.int (1 : Int32))] [])) _
              refine XS.aloadN X837.here hx rfl (hb hby d3_43) rfl rfl ?_
              refine XS.iload X837.here hx rfl (hb hby d3_44) rfl ?_
              show Steps p.tables e below (T837.setTop (mkF m 46 #[.val (.ref a1), .val (.int (4 : Int32)), .val (.int (3 : Int32)), .val (.ref b821), .val (.int (3 : Int32)), .val (.int (1 : Int32))] [(.int (3 : Int32)), (.ref a1)])) _
              exact k
            obtain ⟨cl844, Ar844, qc844, S844, M844, Ha844, Ga844⟩ := id f839
            have hin844 : ¬ ((3 : Int32) < 0 ∨ cl844.slots.size ≤ ((3 : Int32)).toNatClampNeg) := inb_of S844 ⟨by decide, by decide⟩
            have hat844 : cl844.slots[((3 : Int32)).toNatClampNeg]? = some (.int (0 : Int32)) := Ha844.at hin844 rfl
            have K845 : ∀ t, Steps p.tables e below (T837.setTop (mkF m 47 #[.val (.ref a1), .val (.int (4 : Int32)), .val (.int (3 : Int32)), .val (.ref b821), .val (.int (3 : Int32)), .val (.int (1 : Int32))] [(.int (0 : Int32))])) t → Steps p.tables e below G t := fun t k => K843 t (X837.iaload hx (j := (3 : Int32)) (v := (.int (0 : Int32))) (by rw [e837]; exact Ar844.1) (State.isArrayOf_alike hZ.alike Ar844.2.1) Ar844.2.2 hin844 hat844 (g := (mkF m 46 #[.val (.ref a1), .val (.int (4 : Int32)), .val (.int (3 : Int32)), .val (.ref b821), .val (.int (3 : Int32)), .val (.int (1 : Int32))] [(.int (3 : Int32)), (.ref a1)])) rfl rfl (hb hby d3_46) _ k)
            have K846 : ∀ t, Steps p.tables e below (T837.setTop (mkF m 42 #[.val (.ref a1), .val (.int (4 : Int32)), .val (.int (3 : Int32)), .val (.ref b821), .val (.int (0 : Int32)), .val (.int (0 : Int32))] [(.int (0 : Int32)), (.int (0 : Int32)), (.ref b821)])) t → Steps p.tables e below G t := by
              intro t k
              refine K845 t ?_
              show Steps p.tables e below (T837.setTop (mkF m 47 #[.val (.ref a1), .val (.int (4 : Int32)), .val (.int (3 : Int32)), .val (.ref b821), .val (.int (3 : Int32)), .val (.int (1 : Int32))] [(.int (0 : Int32))])) _
              refine XS.istore X837.here hx rfl (hb hby d3_47) rfl (l' := #[.val (.ref a1), .val (.int (4 : Int32)), .val (.int (3 : Int32)), .val (.ref b821), .val (.int (0 : Int32)), .val (.int (1 : Int32))]) rfl ?_
              refine XS.iinc X837.here hx rfl (hb hby d3_49) rfl (l' := #[.val (.ref a1), .val (.int (4 : Int32)), .val (.int (3 : Int32)), .val (.ref b821), .val (.int (0 : Int32)), .val (.int (0 : Int32))]) rfl ?_
              refine XS.goto X837.here hx rfl (pc0 := 52) (pc' := 32) rfl (hb hby d3_52) (by decide) (by decide) ?_
              refine XS.iload X837.here hx rfl (hb hby d3_32) rfl ?_
              show Steps p.tables e below (T837.setTop (mkF m 34 #[.val (.ref a1), .val (.int (4 : Int32)), .val (.int (3 : Int32)), .val (.ref b821), .val (.int (0 : Int32)), .val (.int (0 : Int32))] [(.int (0 : Int32))])) _
              refine XS.ifNo X837.here hx rfl (hb hby d3_34) rfl ((if0 _ _).trans (flt (by decide)).1) ?_
              refine XS.aloadN X837.here hx rfl (hb hby d3_37) rfl rfl ?_
              refine XS.iload X837.here hx rfl (hb hby d3_38) rfl ?_
              refine XS.iload X837.here hx rfl (hb hby d3_40) rfl ?_
              show Steps p.tables e below (T837.setTop (mkF m 42 #[.val (.ref a1), .val (.int (4 : Int32)), .val (.int (3 : Int32)), .val (.ref b821), .val (.int (0 : Int32)), .val (.int (0 : Int32))] [(.int (0 : Int32)), (.int (0 : Int32)), (.ref b821)])) _
              exact k
            obtain ⟨cl847, Ar847, qc847, S847, M847, Ha847, Ga847⟩ := id V837
            have hin847 : ¬ ((0 : Int32) < 0 ∨ cl847.slots.size ≤ ((0 : Int32)).toNatClampNeg) := inb_of S847 ⟨by decide, by decide⟩
            obtain ⟨T847, h847, X847, e847, W847, st847⟩ := stI X837 hx hZ e837 Ar847 (j := (0 : Int32)) hin847 (g := (mkF m 42 #[.val (.ref a1), .val (.int (4 : Int32)), .val (.int (3 : Int32)), .val (.ref b821), .val (.int (0 : Int32)), .val (.int (0 : Int32))] [(.int (0 : Int32)), (.int (0 : Int32)), (.ref b821)])) rfl rfl (hb hby d3_42)
            have V847 : Arv Z h847 b821 kn821 .int (3 : Int32) [(.int (0 : Int32)), (.int (3 : Int32)), (.int (4 : Int32))] (.int (0 : Int32)) := Arv.set Ar847 qc847 S847 M847 Ha847 Ga847 rfl W847 0 rfl (Nat.le_of_ble_eq_true rfl)
            have K848 : ∀ t, Steps p.tables e below (T847.setTop (mkF m 43 #[.val (.ref a1), .val (.int (4 : Int32)), .val (.int (3 : Int32)), .val (.ref b821), .val (.int (0 : Int32)), .val (.int (0 : Int32))] [])) t → Steps p.tables e below G t := fun t k => K846 t (st847 t k)
            have f849 := f839.other W847 ne_a1_b821
            have Z850 : n0 ≤ h847.size := Nat.le_trans Z840 (Keep.of_wr W847).1
            have KP851 : Keep h0 h847 [] := KP841.wr W847 (Or.inr sz_b821)
            have N852 := Fr.snoc X847 N842 g_b821
            have K853 : ∀ t, Steps p.tables e below (T847.setTop (mkF m 46 #[.val (.ref a1), .val (.int (4 : Int32)), .val (.int (3 : Int32)), .val (.ref b821), .val (.int (0 : Int32)), .val (.int (0 : Int32))] [(.int (0 : Int32)), (.ref a1)])) t → Steps p.tables e below G t := by
              intro t k
              refine K848 t ?_
              show Steps p.tables e below (T847.setTop (mkF m 43 #[.val (.ref a1), .val (.int (4 : Int32)), .val (.int (3 : Int32)), .val (.ref b821), .val (.int (0 : Int32)), .val (.int (0 : Int32))] [])) _
              refine XS.aloadN X847.here hx rfl (hb hby d3_43) rfl rfl ?_
              refine XS.iload X847.here hx rfl (hb hby d3_44) rfl ?_
              show Steps p.tables e below (T847.setTop (mkF m 46 #[.val (.ref a1), .val (.int (4 : Int32)), .val (.int (3 : Int32)), .val (.ref b821), .val (.int (0 : Int32)), .val (.int (0 : Int32))] [(.int (0 : Int32)), (.ref a1)])) _
              exact k
            obtain ⟨cl854, Ar854, qc854, S854, M854, Ha854, Ga854⟩ := id f849
            have hin854 : ¬ ((0 : Int32) < 0 ∨ cl854.slots.size ≤ ((0 : Int32)).toNatClampNeg) := inb_of S854 ⟨by decide, by decide⟩
            have hat854 : cl854.slots[((0 : Int32)).toNatClampNeg]? = some (.int q0) := Ha854.at hin854 rfl
            have K855 : ∀ t, Steps p.tables e below (T847.setTop (mkF m 47 #[.val (.ref a1), .val (.int (4 : Int32)), .val (.int (3 : Int32)), .val (.ref b821), .val (.int (0 : Int32)), .val (.int (0 : Int32))] [(.int q0)])) t → Steps p.tables e below G t := fun t k => K853 t (X847.iaload hx (j := (0 : Int32)) (v := (.int q0)) (by rw [e847]; exact Ar854.1) (State.isArrayOf_alike hZ.alike Ar854.2.1) Ar854.2.2 hin854 hat854 (g := (mkF m 46 #[.val (.ref a1), .val (.int (4 : Int32)), .val (.int (3 : Int32)), .val (.ref b821), .val (.int (0 : Int32)), .val (.int (0 : Int32))] [(.int (0 : Int32)), (.ref a1)])) rfl rfl (hb hby d3_46) _ k)
            obtain ⟨fs, hr, hrun, hended, hW, hsame⟩ := X847.leave (v := some (.ref b821)) (fun h => by rw [Bd.returns] at h; cases h)
            have KF := K855
            rw [hG] at KF
            refine ⟨_, _, KF _ ?_, hrun, hended, _, _, rfl, ?_, ⟨_, rfl⟩, hW, hsame.mono (by decide) (by decide)⟩
            · show Steps p.tables e below (T847.setTop (mkF m 47 #[.val (.ref a1), .val (.int (4 : Int32)), .val (.int (3 : Int32)), .val (.ref b821), .val (.int (0 : Int32)), .val (.int (0 : Int32))] [(.int q0)])) _
              refine XS.istore X847.here hx rfl (hb hby d3_47) rfl (l' := #[.val (.ref a1), .val (.int (4 : Int32)), .val (.int (3 : Int32)), .val (.ref b821), .val (.int q0), .val (.int (0 : Int32))]) rfl ?_
              refine XS.iinc X847.here hx rfl (hb hby d3_49) rfl (l' := #[.val (.ref a1), .val (.int (4 : Int32)), .val (.int (3 : Int32)), .val (.ref b821), .val (.int q0), .val (.int (-1 : Int32))]) rfl ?_
              refine XS.goto X847.here hx rfl (pc0 := 52) (pc' := 32) rfl (hb hby d3_52) (by decide) (by decide) ?_
              refine XS.iload X847.here hx rfl (hb hby d3_32) rfl ?_
              show Steps p.tables e below (T847.setTop (mkF m 34 #[.val (.ref a1), .val (.int (4 : Int32)), .val (.int (3 : Int32)), .val (.ref b821), .val (.int q0), .val (.int (-1 : Int32))] [(.int (-1 : Int32))])) _
              refine XS.ifYes X847.here hx rfl (pc0 := 34) (pc' := 55) rfl (hb hby d3_34) rfl ((if0 _ _).trans (tlt (by decide)).1) (by decide) (by decide) ?_
              refine XS.aloadN X847.here hx rfl (hb hby d3_55) rfl rfl ?_
              show Steps p.tables e below (T847.setTop (mkF m 56 #[.val (.ref a1), .val (.int (4 : Int32)), .val (.int (3 : Int32)), .val (.ref b821), .val (.int q0), .val (.int (-1 : Int32))] [(.ref b821)])) _
              exact own_retA X847 hx Bd.returns rfl rfl rfl (hb hby d3_56) hr
            · show Q3 Z (4 : Int32) [(.int q0), (.int q1), (.int q2), (.int (0 : Int32)), (.int (3 : Int32))] h0 n0 _ T847.heap _
              rw [e847]
              exact ⟨_, _, _, _, rfl, N852, KP851, sz_b821, V847, ⟨by decide, by decide⟩, ⟨by decide, by decide⟩, rfl, Or.inr ⟨0, q0, 0, by decide, rfl, ⟨by decide, by decide⟩, rfl, Or.inl ⟨rfl, hq0⟩⟩, Or.inr ⟨3, 0, 0, by decide, rfl, ⟨by decide, by decide⟩, rfl, Or.inr ⟨by decide, ⟨by decide, by decide⟩, rfl, rfl⟩⟩, Or.inr ⟨4, 3, 3, by decide, rfl, ⟨by decide, by decide⟩, rfl, Or.inr ⟨by decide, ⟨by decide, by decide⟩, rfl, rfl⟩⟩, Or.inl (by decide), Or.inl (by decide)⟩
          · have K856 : ∀ t, Steps p.tables e below (s₁.setTop (mkF m 6 #[.val (.ref a1), .val (.int (4 : Int32)), .val (.int (3 : Int32)), .val (.int (1 : Int32)), .unset, .unset] [(.int (1 : Int32)), (.ref a1)])) t → Steps p.tables e below G t := by
              intro t k
              refine K816 t ?_
              show Steps p.tables e below (s₁.setTop (mkF m 4 #[.val (.ref a1), .val (.int (4 : Int32)), .val (.int (3 : Int32)), .val (.int (1 : Int32)), .unset, .unset] [])) _
              refine XS.aloadN X0.here hx rfl (hb hby d3_4) rfl rfl ?_
              refine XS.iloadN X0.here hx rfl (hb hby d3_5) rfl ?_
              show Steps p.tables e below (s₁.setTop (mkF m 6 #[.val (.ref a1), .val (.int (4 : Int32)), .val (.int (3 : Int32)), .val (.int (1 : Int32)), .unset, .unset] [(.int (1 : Int32)), (.ref a1)])) _
              exact k
            obtain ⟨cl857, Ar857, qc857, S857, M857, Ha857, Ga857⟩ := id V1
            have hin857 : ¬ ((1 : Int32) < 0 ∨ cl857.slots.size ≤ ((1 : Int32)).toNatClampNeg) := inb_of S857 ⟨by decide, by decide⟩
            have hat857 : cl857.slots[((1 : Int32)).toNatClampNeg]? = some (.int q1) := Ha857.at hin857 rfl
            have K858 : ∀ t, Steps p.tables e below (s₁.setTop (mkF m 7 #[.val (.ref a1), .val (.int (4 : Int32)), .val (.int (3 : Int32)), .val (.int (1 : Int32)), .unset, .unset] [(.int q1)])) t → Steps p.tables e below G t := fun t k => K856 t (X0.iaload hx (j := (1 : Int32)) (v := (.int q1)) (by rw [e0]; exact Ar857.1) (State.isArrayOf_alike hZ.alike Ar857.2.1) Ar857.2.2 hin857 hat857 (g := (mkF m 6 #[.val (.ref a1), .val (.int (4 : Int32)), .val (.int (3 : Int32)), .val (.int (1 : Int32)), .unset, .unset] [(.int (1 : Int32)), (.ref a1)])) rfl rfl (hb hby d3_6) _ k)
            by_cases hc859 : q1 < (0 : Int32)
            · have K860 : ∀ t, Steps p.tables e below (s₁.setTop (mkF m 21 #[.val (.ref a1), .val (.int (4 : Int32)), .val (.int (3 : Int32)), .val (.int (1 : Int32)), .unset, .unset] [(.int (3 : Int32))])) t → Steps p.tables e below G t := by
                intro t k
                refine K858 t ?_
                show Steps p.tables e below (s₁.setTop (mkF m 7 #[.val (.ref a1), .val (.int (4 : Int32)), .val (.int (3 : Int32)), .val (.int (1 : Int32)), .unset, .unset] [(.int q1)])) _
                refine XS.ifYes X0.here hx rfl (pc0 := 7) (pc' := 20) rfl (hb hby d3_7) rfl ((if0 _ _).trans (tlt hc859).1) (by decide) (by decide) ?_
                refine XS.iloadN X0.here hx rfl (hb hby d3_20) rfl ?_
                show Steps p.tables e below (s₁.setTop (mkF m 21 #[.val (.ref a1), .val (.int (4 : Int32)), .val (.int (3 : Int32)), .val (.int (1 : Int32)), .unset, .unset] [(.int (3 : Int32))])) _
                exact k
              obtain ⟨T861, h861, kn861, X861, e861, E861, A861, st861⟩ := newP X0 hx hZ (hw _ (List.mem_of_getElem? (i := 8) rfl)) e0 (g := (mkF m 21 #[.val (.ref a1), .val (.int (4 : Int32)), .val (.int (3 : Int32)), .val (.int (1 : Int32)), .unset, .unset] [(.int (3 : Int32))])) rfl (hb hby d3_21) rfl (by decide) (cap := 3) (by decide) (by decide) (by decide) (by decide)
              obtain ⟨b861, g861⟩ : ∃ z, z = h0.size := ⟨_, rfl⟩
              rw [← g861] at A861 st861
              have ne_a1_b861 : a1 ≠ b861 := Nat.ne_of_lt (Nat.lt_of_lt_of_le V1.lt (Nat.le_of_eq g861.symm))
              have g_b861 : n0 ≤ b861 := Nat.le_trans Z0 (Nat.le_of_eq g861.symm)
              have sz_b861 : h0.size ≤ b861 := Nat.le_trans KP0.1 (Nat.le_of_eq g861.symm)
              have f862 := V1.ext E861
              have Z863 : n0 ≤ h861.size := Nat.le_trans Z0 E861.1
              have KP864 : Keep h0 h861 [] := KP0.ext E861
              have K865 : ∀ t, Steps p.tables e below (T861.setTop (mkF m 23 #[.val (.ref a1), .val (.int (4 : Int32)), .val (.int (3 : Int32)), .val (.int (1 : Int32)), .unset, .unset] [(.ref b861)])) t → Steps p.tables e below G t := fun t k => K860 t (st861 t k)
              have V861 : Arv Z h861 b861 kn861 .int (3 : Int32) [(.int (0 : Int32)), (.int (0 : Int32)), (.int (0 : Int32))] (.int (0 : Int32)) := (Arv.new A861 (by decide)).pad (pad_rep [] (.int (0 : Int32)) 3)
              have K866 : ∀ t, Steps p.tables e below (T861.setTop (mkF m 42 #[.val (.ref a1), .val (.int (4 : Int32)), .val (.int (3 : Int32)), .val (.ref b861), .val (.int (4 : Int32)), .val (.int (2 : Int32))] [(.int (4 : Int32)), (.int (2 : Int32)), (.ref b861)])) t → Steps p.tables e below G t := by
                intro t k
                refine K865 t ?_
                show Steps p.tables e below (T861.setTop (mkF m 23 #[.val (.ref a1), .val (.int (4 : Int32)), .val (.int (3 : Int32)), .val (.int (1 : Int32)), .unset, .unset] [(.ref b861)])) _
                refine XS.astoreN X861.here hx rfl (hb hby d3_23) rfl rfl (l' := #[.val (.ref a1), .val (.int (4 : Int32)), .val (.int (3 : Int32)), .val (.ref b861), .unset, .unset]) rfl ?_
                refine XS.iloadN X861.here hx rfl (hb hby d3_24) rfl ?_
                refine XS.istore X861.here hx rfl (hb hby d3_25) rfl (l' := #[.val (.ref a1), .val (.int (4 : Int32)), .val (.int (3 : Int32)), .val (.ref b861), .val (.int (4 : Int32)), .unset]) rfl ?_
                refine XS.iloadN X861.here hx rfl (hb hby d3_27) rfl ?_
                show Steps p.tables e below (T861.setTop (mkF m 28 #[.val (.ref a1), .val (.int (4 : Int32)), .val (.int (3 : Int32)), .val (.ref b861), .val (.int (4 : Int32)), .unset] [(.int (3 : Int32))])) _
                refine XS.iconst X861.here hx rfl (hb hby d3_28) ?_
                refine XS.isub X861.here hx rfl (hb hby d3_29) rfl ?_
                refine XS.istore X861.here hx rfl (hb hby d3_30) rfl (l' := #[.val (.ref a1), .val (.int (4 : Int32)), .val (.int (3 : Int32)), .val (.ref b861), .val (.int (4 : Int32)), .val (.int (2 : Int32))]) rfl ?_
                refine XS.iload X861.here hx rfl (hb hby d3_32) rfl ?_
                show Steps p.tables e below (T861.setTop (mkF m 34 #[.val (.ref a1), .val (.int (4 : Int32)), .val (.int (3 : Int32)), .val (.ref b861), .val (.int (4 : Int32)), .val (.int (2 : Int32))] [(.int (2 : Int32))])) _
                refine XS.ifNo X861.here hx rfl (hb hby d3_34) rfl ((if0 _ _).trans (flt (by decide)).1) ?_
                refine XS.aloadN X861.here hx rfl (hb hby d3_37) rfl rfl ?_
                refine XS.iload X861.here hx rfl (hb hby d3_38) rfl ?_
                refine XS.iload X861.here hx rfl (hb hby d3_40) rfl ?_
                show Steps p.tables e below (T861.setTop (mkF m 42 #[.val (.ref a1), .val (.int (4 : Int32)), .val (.int (3 : Int32)), .val (.ref b861), .val (.int (4 : Int32)), .val (.int (2 : Int32))] [(.int (4 : Int32)), (.int (2 : Int32)), (.ref b861)])) _
                exact k
              obtain ⟨cl867, Ar867, qc867, S867, M867, Ha867, Ga867⟩ := id V861
              have hin867 : ¬ ((2 : Int32) < 0 ∨ cl867.slots.size ≤ ((2 : Int32)).toNatClampNeg) := inb_of S867 ⟨by decide, by decide⟩
              obtain ⟨T867, h867, X867, e867, W867, st867⟩ := stI X861 hx hZ e861 Ar867 (j := (2 : Int32)) hin867 (g := (mkF m 42 #[.val (.ref a1), .val (.int (4 : Int32)), .val (.int (3 : Int32)), .val (.ref b861), .val (.int (4 : Int32)), .val (.int (2 : Int32))] [(.int (4 : Int32)), (.int (2 : Int32)), (.ref b861)])) rfl rfl (hb hby d3_42)
              have V867 : Arv Z h867 b861 kn861 .int (3 : Int32) [(.int (0 : Int32)), (.int (0 : Int32)), (.int (4 : Int32))] (.int (0 : Int32)) := Arv.set Ar867 qc867 S867 M867 Ha867 Ga867 rfl W867 2 rfl (Nat.le_of_ble_eq_true rfl)
              have K868 : ∀ t, Steps p.tables e below (T867.setTop (mkF m 43 #[.val (.ref a1), .val (.int (4 : Int32)), .val (.int (3 : Int32)), .val (.ref b861), .val (.int (4 : Int32)), .val (.int (2 : Int32))] [])) t → Steps p.tables e below G t := fun t k => K866 t (st867 t k)
              have f869 := f862.other W867 ne_a1_b861
              have Z870 : n0 ≤ h867.size := Nat.le_trans Z863 (Keep.of_wr W867).1
              have KP871 : Keep h0 h867 [] := KP864.wr W867 (Or.inr sz_b861)
              have N872 := Fr.snoc X867 N0 g_b861
              have K873 : ∀ t, Steps p.tables e below (T867.setTop (mkF m 46 #[.val (.ref a1), .val (.int (4 : Int32)), .val (.int (3 : Int32)), .val (.ref b861), .val (.int (4 : Int32)), .val (.int (2 : Int32))] [(.int (4 : Int32)), (.ref a1)])) t → Steps p.tables e below G t := by
                intro t k
                refine K868 t ?_
                show Steps p.tables e below (T867.setTop (mkF m 43 #[.val (.ref a1), .val (.int (4 : Int32)), .val (.int (3 : Int32)), .val (.ref b861), .val (.int (4 : Int32)), .val (.int (2 : Int32))] [])) _
                refine XS.aloadN X867.here hx rfl (hb hby d3_43) rfl rfl ?_
                refine XS.iload X867.here hx rfl (hb hby d3_44) rfl ?_
                show Steps p.tables e below (T867.setTop (mkF m 46 #[.val (.ref a1), .val (.int (4 : Int32)), .val (.int (3 : Int32)), .val (.ref b861), .val (.int (4 : Int32)), .val (.int (2 : Int32))] [(.int (4 : Int32)), (.ref a1)])) _
                exact k
              obtain ⟨cl874, Ar874, qc874, S874, M874, Ha874, Ga874⟩ := id f869
              have hin874 : ¬ ((4 : Int32) < 0 ∨ cl874.slots.size ≤ ((4 : Int32)).toNatClampNeg) := inb_of S874 ⟨by decide, by decide⟩
              have hat874 : cl874.slots[((4 : Int32)).toNatClampNeg]? = some (.int (3 : Int32)) := Ha874.at hin874 rfl
              have K875 : ∀ t, Steps p.tables e below (T867.setTop (mkF m 47 #[.val (.ref a1), .val (.int (4 : Int32)), .val (.int (3 : Int32)), .val (.ref b861), .val (.int (4 : Int32)), .val (.int (2 : Int32))] [(.int (3 : Int32))])) t → Steps p.tables e below G t := fun t k => K873 t (X867.iaload hx (j := (4 : Int32)) (v := (.int (3 : Int32))) (by rw [e867]; exact Ar874.1) (State.isArrayOf_alike hZ.alike Ar874.2.1) Ar874.2.2 hin874 hat874 (g := (mkF m 46 #[.val (.ref a1), .val (.int (4 : Int32)), .val (.int (3 : Int32)), .val (.ref b861), .val (.int (4 : Int32)), .val (.int (2 : Int32))] [(.int (4 : Int32)), (.ref a1)])) rfl rfl (hb hby d3_46) _ k)
              have K876 : ∀ t, Steps p.tables e below (T867.setTop (mkF m 42 #[.val (.ref a1), .val (.int (4 : Int32)), .val (.int (3 : Int32)), .val (.ref b861), .val (.int (3 : Int32)), .val (.int (1 : Int32))] [(.int (3 : Int32)), (.int (1 : Int32)), (.ref b861)])) t → Steps p.tables e below G t := by
                intro t k
                refine K875 t ?_
                show Steps p.tables e below (T867.setTop (mkF m 47 #[.val (.ref a1), .val (.int (4 : Int32)), .val (.int (3 : Int32)), .val (.ref b861), .val (.int (4 : Int32)), .val (.int (2 : Int32))] [(.int (3 : Int32))])) _
                refine XS.istore X867.here hx rfl (hb hby d3_47) rfl (l' := #[.val (.ref a1), .val (.int (4 : Int32)), .val (.int (3 : Int32)), .val (.ref b861), .val (.int (3 : Int32)), .val (.int (2 : Int32))]) rfl ?_
                refine XS.iinc X867.here hx rfl (hb hby d3_49) rfl (l' := #[.val (.ref a1), .val (.int (4 : Int32)), .val (.int (3 : Int32)), .val (.ref b861), .val (.int (3 : Int32)), .val (.int (1 : Int32))]) rfl ?_
                refine XS.goto X867.here hx rfl (pc0 := 52) (pc' := 32) rfl (hb hby d3_52) (by decide) (by decide) ?_
                refine XS.iload X867.here hx rfl (hb hby d3_32) rfl ?_
                show Steps p.tables e below (T867.setTop (mkF m 34 #[.val (.ref a1), .val (.int (4 : Int32)), .val (.int (3 : Int32)), .val (.ref b861), .val (.int (3 : Int32)), .val (.int (1 : Int32))] [(.int (1 : Int32))])) _
                refine XS.ifNo X867.here hx rfl (hb hby d3_34) rfl ((if0 _ _).trans (flt (by decide)).1) ?_
                refine XS.aloadN X867.here hx rfl (hb hby d3_37) rfl rfl ?_
                refine XS.iload X867.here hx rfl (hb hby d3_38) rfl ?_
                refine XS.iload X867.here hx rfl (hb hby d3_40) rfl ?_
                show Steps p.tables e below (T867.setTop (mkF m 42 #[.val (.ref a1), .val (.int (4 : Int32)), .val (.int (3 : Int32)), .val (.ref b861), .val (.int (3 : Int32)), .val (.int (1 : Int32))] [(.int (3 : Int32)), (.int (1 : Int32)), (.ref b861)])) _
                exact k
              obtain ⟨cl877, Ar877, qc877, S877, M877, Ha877, Ga877⟩ := id V867
              have hin877 : ¬ ((1 : Int32) < 0 ∨ cl877.slots.size ≤ ((1 : Int32)).toNatClampNeg) := inb_of S877 ⟨by decide, by decide⟩
              obtain ⟨T877, h877, X877, e877, W877, st877⟩ := stI X867 hx hZ e867 Ar877 (j := (1 : Int32)) hin877 (g := (mkF m 42 #[.val (.ref a1), .val (.int (4 : Int32)), .val (.int (3 : Int32)), .val (.ref b861), .val (.int (3 : Int32)), .val (.int (1 : Int32))] [(.int (3 : Int32)), (.int (1 : Int32)), (.ref b861)])) rfl rfl (hb hby d3_42)
              have V877 : Arv Z h877 b861 kn861 .int (3 : Int32) [(.int (0 : Int32)), (.int (3 : Int32)), (.int (4 : Int32))] (.int (0 : Int32)) := Arv.set Ar877 qc877 S877 M877 Ha877 Ga877 rfl W877 1 rfl (Nat.le_of_ble_eq_true rfl)
              have K878 : ∀ t, Steps p.tables e below (T877.setTop (mkF m 43 #[.val (.ref a1), .val (.int (4 : Int32)), .val (.int (3 : Int32)), .val (.ref b861), .val (.int (3 : Int32)), .val (.int (1 : Int32))] [])) t → Steps p.tables e below G t := fun t k => K876 t (st877 t k)
              have f879 := f869.other W877 ne_a1_b861
              have Z880 : n0 ≤ h877.size := Nat.le_trans Z870 (Keep.of_wr W877).1
              have KP881 : Keep h0 h877 [] := KP871.wr W877 (Or.inr sz_b861)
              have N882 := Fr.snoc X877 N872 g_b861
              have K883 : ∀ t, Steps p.tables e below (T877.setTop (mkF m 46 #[.val (.ref a1), .val (.int (4 : Int32)), .val (.int (3 : Int32)), .val (.ref b861), .val (.int (3 : Int32)), .val (.int (1 : Int32))] [(.int (3 : Int32)), (.ref a1)])) t → Steps p.tables e below G t := by
                intro t k
                refine K878 t ?_
                show Steps p.tables e below (T877.setTop (mkF m 43 #[.val (.ref a1), .val (.int (4 : Int32)), .val (.int (3 : Int32)), .val (.ref b861), .val (.int (3 : Int32)), .val (.int (1 : Int32))] [])) _
                refine XS.aloadN X877.here hx rfl (hb hby d3_43) rfl rfl ?_
                refine XS.iload X877.here hx rfl (hb hby d3_44) rfl ?_
                show Steps p.tables e below (T877.setTop (mkF m 46 #[.val (.ref a1), .val (.int (4 : Int32)), .val (.int (3 : Int32)), .val (.ref b861), .val (.int (3 : Int32)), .val (.int (1 : Int32))] [(.int (3 : Int32)), (.ref a1)])) _
                exact k
              obtain ⟨cl884, Ar884, qc884, S884, M884, Ha884, Ga884⟩ := id f879
              have hin884 : ¬ ((3 : Int32) < 0 ∨ cl884.slots.size ≤ ((3 : Int32)).toNatClampNeg) := inb_of S884 ⟨by decide, by decide⟩
              have hat884 : cl884.slots[((3 : Int32)).toNatClampNeg]? = some (.int (1 : Int32)) := Ha884.at hin884 rfl
              have K885 : ∀ t, Steps p.tables e below (T877.setTop (mkF m 47 #[.val (.ref a1), .val (.int (4 : Int32)), .val (.int (3 : Int32)), .val (.ref b861), .val (.int (3 : Int32)), .val (.int (1 : Int32))] [(.int (1 : Int32))])) t → Steps p.tables e below G t := fun t k => K883 t (X877.iaload hx (j := (3 : Int32)) (v := (.int (1 : Int32))) (by rw [e877]; exact Ar884.1) (State.isArrayOf_alike hZ.alike Ar884.2.1) Ar884.2.2 hin884 hat884 (g := (mkF m 46 #[.val (.ref a1), .val (.int (4 : Int32)), .val (.int (3 : Int32)), .val (.ref b861), .val (.int (3 : Int32)), .val (.int (1 : Int32))] [(.int (3 : Int32)), (.ref a1)])) rfl rfl (hb hby d3_46) _ k)
              have K886 : ∀ t, Steps p.tables e below (T877.setTop (mkF m 42 #[.val (.ref a1), .val (.int (4 : Int32)), .val (.int (3 : Int32)), .val (.ref b861), .val (.int (1 : Int32)), .val (.int (0 : Int32))] [(.int (1 : Int32)), (.int (0 : Int32)), (.ref b861)])) t → Steps p.tables e below G t := by
                intro t k
                refine K885 t ?_
                show Steps p.tables e below (T877.setTop (mkF m 47 #[.val (.ref a1), .val (.int (4 : Int32)), .val (.int (3 : Int32)), .val (.ref b861), .val (.int (3 : Int32)), .val (.int (1 : Int32))] [(.int (1 : Int32))])) _
                refine XS.istore X877.here hx rfl (hb hby d3_47) rfl (l' := #[.val (.ref a1), .val (.int (4 : Int32)), .val (.int (3 : Int32)), .val (.ref b861), .val (.int (1 : Int32)), .val (.int (1 : Int32))]) rfl ?_
                refine XS.iinc X877.here hx rfl (hb hby d3_49) rfl (l' := #[.val (.ref a1), .val (.int (4 : Int32)), .val (.int (3 : Int32)), .val (.ref b861), .val (.int (1 : Int32)), .val (.int (0 : Int32))]) rfl ?_
                refine XS.goto X877.here hx rfl (pc0 := 52) (pc' := 32) rfl (hb hby d3_52) (by decide) (by decide) ?_
                refine XS.iload X877.here hx rfl (hb hby d3_32) rfl ?_
                show Steps p.tables e below (T877.setTop (mkF m 34 #[.val (.ref a1), .val (.int (4 : Int32)), .val (.int (3 : Int32)), .val (.ref b861), .val (.int (1 : Int32)), .val (.int (0 : Int32))] [(.int (0 : Int32))])) _
                refine XS.ifNo X877.here hx rfl (hb hby d3_34) rfl ((if0 _ _).trans (flt (by decide)).1) ?_
                refine XS.aloadN X877.here hx rfl (hb hby d3_37) rfl rfl ?_
                refine XS.iload X877.here hx rfl (hb hby d3_38) rfl ?_
                refine XS.iload X877.here hx rfl (hb hby d3_40) rfl ?_
                show Steps p.tables e below (T877.setTop (mkF m 42 #[.val (.ref a1), .val (.int (4 : Int32)), .val (.int (3 : Int32)), .val (.ref b861), .val (.int (1 : Int32)), .val (.int (0 : Int32))] [(.int (1 : Int32)), (.int (0 : Int32)), (.ref b861)])) _
                exact k
              obtain ⟨cl887, Ar887, qc887, S887, M887, Ha887, Ga887⟩ := id V877
              have hin887 : ¬ ((0 : Int32) < 0 ∨ cl887.slots.size ≤ ((0 : Int32)).toNatClampNeg) := inb_of S887 ⟨by decide, by decide⟩
              obtain ⟨T887, h887, X887, e887, W887, st887⟩ := stI X877 hx hZ e877 Ar887 (j := (0 : Int32)) hin887 (g := (mkF m 42 #[.val (.ref a1), .val (.int (4 : Int32)), .val (.int (3 : Int32)), .val (.ref b861), .val (.int (1 : Int32)), .val (.int (0 : Int32))] [(.int (1 : Int32)), (.int (0 : Int32)), (.ref b861)])) rfl rfl (hb hby d3_42)
              have V887 : Arv Z h887 b861 kn861 .int (3 : Int32) [(.int (1 : Int32)), (.int (3 : Int32)), (.int (4 : Int32))] (.int (0 : Int32)) := Arv.set Ar887 qc887 S887 M887 Ha887 Ga887 rfl W887 0 rfl (Nat.le_of_ble_eq_true rfl)
              have K888 : ∀ t, Steps p.tables e below (T887.setTop (mkF m 43 #[.val (.ref a1), .val (.int (4 : Int32)), .val (.int (3 : Int32)), .val (.ref b861), .val (.int (1 : Int32)), .val (.int (0 : Int32))] [])) t → Steps p.tables e below G t := fun t k => K886 t (st887 t k)
              have f889 := f879.other W887 ne_a1_b861
              have Z890 : n0 ≤ h887.size := Nat.le_trans Z880 (Keep.of_wr W887).1
              have KP891 : Keep h0 h887 [] := KP881.wr W887 (Or.inr sz_b861)
              have N892 := Fr.snoc X887 N882 g_b861
              have K893 : ∀ t, Steps p.tables e below (T887.setTop (mkF m 46 #[.val (.ref a1), .val (.int (4 : Int32)), .val (.int (3 : Int32)), .val (.ref b861), .val (.int (1 : Int32)), .val (.int (0 : Int32))] [(.int (1 : Int32)), (.ref a1)])) t → Steps p.tables e below G t := by
                intro t k
                refine K888 t ?_
                show Steps p.tables e below (T887.setTop (mkF m 43 #[.val (.ref a1), .val (.int (4 : Int32)), .val (.int (3 : Int32)), .val (.ref b861), .val (.int (1 : Int32)), .val (.int (0 : Int32))] [])) _
                refine XS.aloadN X887.here hx rfl (hb hby d3_43) rfl rfl ?_
                refine XS.iload X887.here hx rfl (hb hby d3_44) rfl ?_
                show Steps p.tables e below (T887.setTop (mkF m 46 #[.val (.ref a1), .val (.int (4 : Int32)), .val (.int (3 : Int32)), .val (.ref b861), .val (.int (1 : Int32)), .val (.int (0 : Int32))] [(.int (1 : Int32)), (.ref a1)])) _
                exact k
              obtain ⟨cl894, Ar894, qc894, S894, M894, Ha894, Ga894⟩ := id f889
              have hin894 : ¬ ((1 : Int32) < 0 ∨ cl894.slots.size ≤ ((1 : Int32)).toNatClampNeg) := inb_of S894 ⟨by decide, by decide⟩
              have hat894 : cl894.slots[((1 : Int32)).toNatClampNeg]? = some (.int q1) := Ha894.at hin894 rfl
              have K895 : ∀ t, Steps p.tables e below (T887.setTop (mkF m 47 #[.val (.ref a1), .val (.int (4 : Int32)), .val (.int (3 : Int32)), .val (.ref b861), .val (.int (1 : Int32)), .val (.int (0 : Int32))] [(.int q1)])) t → Steps p.tables e below G t := fun t k => K893 t (X887.iaload hx (j := (1 : Int32)) (v := (.int q1)) (by rw [e887]; exact Ar894.1) (State.isArrayOf_alike hZ.alike Ar894.2.1) Ar894.2.2 hin894 hat894 (g := (mkF m 46 #[.val (.ref a1), .val (.int (4 : Int32)), .val (.int (3 : Int32)), .val (.ref b861), .val (.int (1 : Int32)), .val (.int (0 : Int32))] [(.int (1 : Int32)), (.ref a1)])) rfl rfl (hb hby d3_46) _ k)
              obtain ⟨fs, hr, hrun, hended, hW, hsame⟩ := X887.leave (v := some (.ref b861)) (fun h => by rw [Bd.returns] at h; cases h)
              have KF := K895
              rw [hG] at KF
              refine ⟨_, _, KF _ ?_, hrun, hended, _, _, rfl, ?_, ⟨_, rfl⟩, hW, hsame.mono (by decide) (by decide)⟩
              · show Steps p.tables e below (T887.setTop (mkF m 47 #[.val (.ref a1), .val (.int (4 : Int32)), .val (.int (3 : Int32)), .val (.ref b861), .val (.int (1 : Int32)), .val (.int (0 : Int32))] [(.int q1)])) _
                refine XS.istore X887.here hx rfl (hb hby d3_47) rfl (l' := #[.val (.ref a1), .val (.int (4 : Int32)), .val (.int (3 : Int32)), .val (.ref b861), .val (.int q1), .val (.int (0 : Int32))]) rfl ?_
                refine XS.iinc X887.here hx rfl (hb hby d3_49) rfl (l' := #[.val (.ref a1), .val (.int (4 : Int32)), .val (.int (3 : Int32)), .val (.ref b861), .val (.int q1), .val (.int (-1 : Int32))]) rfl ?_
                refine XS.goto X887.here hx rfl (pc0 := 52) (pc' := 32) rfl (hb hby d3_52) (by decide) (by decide) ?_
                refine XS.iload X887.here hx rfl (hb hby d3_32) rfl ?_
                show Steps p.tables e below (T887.setTop (mkF m 34 #[.val (.ref a1), .val (.int (4 : Int32)), .val (.int (3 : Int32)), .val (.ref b861), .val (.int q1), .val (.int (-1 : Int32))] [(.int (-1 : Int32))])) _
                refine XS.ifYes X887.here hx rfl (pc0 := 34) (pc' := 55) rfl (hb hby d3_34) rfl ((if0 _ _).trans (tlt (by decide)).1) (by decide) (by decide) ?_
                refine XS.aloadN X887.here hx rfl (hb hby d3_55) rfl rfl ?_
                show Steps p.tables e below (T887.setTop (mkF m 56 #[.val (.ref a1), .val (.int (4 : Int32)), .val (.int (3 : Int32)), .val (.ref b861), .val (.int q1), .val (.int (-1 : Int32))] [(.ref b861)])) _
                exact own_retA X887 hx Bd.returns rfl rfl rfl (hb hby d3_56) hr
              · show Q3 Z (4 : Int32) [(.int q0), (.int q1), (.int q2), (.int (1 : Int32)), (.int (3 : Int32))] h0 n0 _ T887.heap _
                rw [e887]
                exact ⟨_, _, _, _, rfl, N892, KP891, sz_b861, V887, ⟨by decide, by decide⟩, ⟨by decide, by decide⟩, rfl, Or.inr ⟨1, q1, 0, by decide, rfl, ⟨by decide, by decide⟩, rfl, Or.inl ⟨rfl, hc859⟩⟩, Or.inr ⟨3, 1, 1, by decide, rfl, ⟨by decide, by decide⟩, rfl, Or.inr ⟨by decide, ⟨by decide, by decide⟩, rfl, rfl⟩⟩, Or.inr ⟨4, 3, 3, by decide, rfl, ⟨by decide, by decide⟩, rfl, Or.inr ⟨by decide, ⟨by decide, by decide⟩, rfl, rfl⟩⟩, Or.inl (by decide), Or.inl (by decide)⟩
            · have K896 : ∀ t, Steps p.tables e below (s₁.setTop (mkF m 15 #[.val (.ref a1), .val (.int (4 : Int32)), .val (.int (4 : Int32)), .val (.int (1 : Int32)), .unset, .unset] [(.int (1 : Int32)), (.ref a1)])) t → Steps p.tables e below G t := by
                intro t k
                refine K858 t ?_
                show Steps p.tables e below (s₁.setTop (mkF m 7 #[.val (.ref a1), .val (.int (4 : Int32)), .val (.int (3 : Int32)), .val (.int (1 : Int32)), .unset, .unset] [(.int q1)])) _
                refine XS.ifNo X0.here hx rfl (hb hby d3_7) rfl ((if0 _ _).trans (flt hc859).1) ?_
                refine XS.iinc X0.here hx rfl (hb hby d3_10) rfl (l' := #[.val (.ref a1), .val (.int (4 : Int32)), .val (.int (4 : Int32)), .val (.int (1 : Int32)), .unset, .unset]) rfl ?_
                refine XS.aloadN X0.here hx rfl (hb hby d3_13) rfl rfl ?_
                refine XS.iloadN X0.here hx rfl (hb hby d3_14) rfl ?_
                show Steps p.tables e below (s₁.setTop (mkF m 15 #[.val (.ref a1), .val (.int (4 : Int32)), .val (.int (4 : Int32)), .val (.int (1 : Int32)), .unset, .unset] [(.int (1 : Int32)), (.ref a1)])) _
                exact k
              obtain ⟨cl897, Ar897, qc897, S897, M897, Ha897, Ga897⟩ := id V1
              have hin897 : ¬ ((1 : Int32) < 0 ∨ cl897.slots.size ≤ ((1 : Int32)).toNatClampNeg) := inb_of S897 ⟨by decide, by decide⟩
              have hat897 : cl897.slots[((1 : Int32)).toNatClampNeg]? = some (.int q1) := Ha897.at hin897 rfl
              have K898 : ∀ t, Steps p.tables e below (s₁.setTop (mkF m 16 #[.val (.ref a1), .val (.int (4 : Int32)), .val (.int (4 : Int32)), .val (.int (1 : Int32)), .unset, .unset] [(.int q1)])) t → Steps p.tables e below G t := fun t k => K896 t (X0.iaload hx (j := (1 : Int32)) (v := (.int q1)) (by rw [e0]; exact Ar897.1) (State.isArrayOf_alike hZ.alike Ar897.2.1) Ar897.2.2 hin897 hat897 (g := (mkF m 15 #[.val (.ref a1), .val (.int (4 : Int32)), .val (.int (4 : Int32)), .val (.int (1 : Int32)), .unset, .unset] [(.int (1 : Int32)), (.ref a1)])) rfl rfl (hb hby d3_15) _ k)
              have K899 : ∀ t, Steps p.tables e below (s₁.setTop (mkF m 4 #[.val (.ref a1), .val (.int (4 : Int32)), .val (.int (4 : Int32)), .val (.int q1), .unset, .unset] [])) t → Steps p.tables e below G t := by
                intro t k
                refine K898 t ?_
                show Steps p.tables e below (s₁.setTop (mkF m 16 #[.val (.ref a1), .val (.int (4 : Int32)), .val (.int (4 : Int32)), .val (.int (1 : Int32)), .unset, .unset] [(.int q1)])) _
                refine XS.istoreN X0.here hx rfl (hb hby d3_16) rfl (l' := #[.val (.ref a1), .val (.int (4 : Int32)), .val (.int (4 : Int32)), .val (.int q1), .unset, .unset]) rfl ?_
                refine XS.goto X0.here hx rfl (pc0 := 17) (pc' := 4) rfl (hb hby d3_17) (by decide) (by decide) ?_
                show Steps p.tables e below (s₁.setTop (mkF m 4 #[.val (.ref a1), .val (.int (4 : Int32)), .val (.int (4 : Int32)), .val (.int q1), .unset, .unset] [])) _
                exact k
              obtain rfl := own_lt1 hc859 hq1
              · have K900 : ∀ t, Steps p.tables e below (s₁.setTop (mkF m 6 #[.val (.ref a1), .val (.int (4 : Int32)), .val (.int (4 : Int32)), .val (.int (0 : Int32)), .unset, .unset] [(.int (0 : Int32)), (.ref a1)])) t → Steps p.tables e below G t := by
                  intro t k
                  refine K899 t ?_
                  show Steps p.tables e below (s₁.setTop (mkF m 4 #[.val (.ref a1), .val (.int (4 : Int32)), .val (.int (4 : Int32)), .val (.int (0 : Int32)), .unset, .unset] [])) _
                  refine XS.aloadN X0.here hx rfl (hb hby d3_4) rfl rfl ?_
                  refine XS.iloadN X0.here hx rfl (hb hby d3_5) rfl ?_
                  show Steps p.tables e below (s₁.setTop (mkF m 6 #[.val (.ref a1), .val (.int (4 : Int32)), .val (.int (4 : Int32)), .val (.int (0 : Int32)), .unset, .unset] [(.int (0 : Int32)), (.ref a1)])) _
                  exact k
                obtain ⟨cl901, Ar901, qc901, S901, M901, Ha901, Ga901⟩ := id V1
                have hin901 : ¬ ((0 : Int32) < 0 ∨ cl901.slots.size ≤ ((0 : Int32)).toNatClampNeg) := inb_of S901 ⟨by decide, by decide⟩
                have hat901 : cl901.slots[((0 : Int32)).toNatClampNeg]? = some (.int q0) := Ha901.at hin901 rfl
                have K902 : ∀ t, Steps p.tables e below (s₁.setTop (mkF m 7 #[.val (.ref a1), .val (.int (4 : Int32)), .val (.int (4 : Int32)), .val (.int (0 : Int32)), .unset, .unset] [(.int q0)])) t → Steps p.tables e below G t := fun t k => K900 t (X0.iaload hx (j := (0 : Int32)) (v := (.int q0)) (by rw [e0]; exact Ar901.1) (State.isArrayOf_alike hZ.alike Ar901.2.1) Ar901.2.2 hin901 hat901 (g := (mkF m 6 #[.val (.ref a1), .val (.int (4 : Int32)), .val (.int (4 : Int32)), .val (.int (0 : Int32)), .unset, .unset] [(.int (0 : Int32)), (.ref a1)])) rfl rfl (hb hby d3_6) _ k)
                have K903 : ∀ t, Steps p.tables e below (s₁.setTop (mkF m 21 #[.val (.ref a1), .val (.int (4 : Int32)), .val (.int (4 : Int32)), .val (.int (0 : Int32)), .unset, .unset] [(.int (4 : Int32))])) t → Steps p.tables e below G t := by
                  intro t k
                  refine K902 t ?_
                  show Steps p.tables e below (s₁.setTop (mkF m 7 #[.val (.ref a1), .val (.int (4 : Int32)), .val (.int (4 : Int32)), .val (.int (0 : Int32)), .unset, .unset] [(.int q0)])) _
                  refine XS.ifYes X0.here hx rfl (pc0 := 7) (pc' := 20) rfl (hb hby d3_7) rfl ((if0 _ _).trans (tlt hq0).1) (by decide) (by decide) ?_
                  refine XS.iloadN X0.here hx rfl (hb hby d3_20) rfl ?_
                  show Steps p.tables e below (s₁.setTop (mkF m 21 #[.val (.ref a1), .val (.int (4 : Int32)), .val (.int (4 : Int32)), .val (.int (0 : Int32)), .unset, .unset] [(.int (4 : Int32))])) _
                  exact k
                obtain ⟨T904, h904, kn904, X904, e904, E904, A904, st904⟩ := newP X0 hx hZ (hw _ (List.mem_of_getElem? (i := 8) rfl)) e0 (g := (mkF m 21 #[.val (.ref a1), .val (.int (4 : Int32)), .val (.int (4 : Int32)), .val (.int (0 : Int32)), .unset, .unset] [(.int (4 : Int32))])) rfl (hb hby d3_21) rfl (by decide) (cap := 4) (by decide) (by decide) (by decide) (by decide)
                obtain ⟨b904, g904⟩ : ∃ z, z = h0.size := ⟨_, rfl⟩
                rw [← g904] at A904 st904
                have ne_a1_b904 : a1 ≠ b904 := Nat.ne_of_lt (Nat.lt_of_lt_of_le V1.lt (Nat.le_of_eq g904.symm))
                have g_b904 : n0 ≤ b904 := Nat.le_trans Z0 (Nat.le_of_eq g904.symm)
                have sz_b904 : h0.size ≤ b904 := Nat.le_trans KP0.1 (Nat.le_of_eq g904.symm)
                have f905 := V1.ext E904
                have Z906 : n0 ≤ h904.size := Nat.le_trans Z0 E904.1
                have KP907 : Keep h0 h904 [] := KP0.ext E904
                have K908 : ∀ t, Steps p.tables e below (T904.setTop (mkF m 23 #[.val (.ref a1), .val (.int (4 : Int32)), .val (.int (4 : Int32)), .val (.int (0 : Int32)), .unset, .unset] [(.ref b904)])) t → Steps p.tables e below G t := fun t k => K903 t (st904 t k)
                have V904 : Arv Z h904 b904 kn904 .int (4 : Int32) [(.int (0 : Int32)), (.int (0 : Int32)), (.int (0 : Int32)), (.int (0 : Int32))] (.int (0 : Int32)) := (Arv.new A904 (by decide)).pad (pad_rep [] (.int (0 : Int32)) 4)
                have K909 : ∀ t, Steps p.tables e below (T904.setTop (mkF m 42 #[.val (.ref a1), .val (.int (4 : Int32)), .val (.int (4 : Int32)), .val (.ref b904), .val (.int (4 : Int32)), .val (.int (3 : Int32))] [(.int (4 : Int32)), (.int (3 : Int32)), (.ref b904)])) t → Steps p.tables e below G t := by
                  intro t k
                  refine K908 t ?_
                  show Steps p.tables e below (T904.setTop (mkF m 23 #[.val (.ref a1), .val (.int (4 : Int32)), .val (.int (4 : Int32)), .val (.int (0 : Int32)), .unset, .unset] [(.ref b904)])) _
                  refine XS.astoreN X904.here hx rfl (hb hby d3_23) rfl rfl (l' := #[.val (.ref a1), .val (.int (4 : Int32)), .val (.int (4 : Int32)), .val (.ref b904), .unset, .unset]) rfl ?_
                  refine XS.iloadN X904.here hx rfl (hb hby d3_24) rfl ?_
                  refine XS.istore X904.here hx rfl (hb hby d3_25) rfl (l' := #[.val (.ref a1), .val (.int (4 : Int32)), .val (.int (4 : Int32)), .val (.ref b904), .val (.int (4 : Int32)), .unset]) rfl ?_
                  refine XS.iloadN X904.here hx rfl (hb hby d3_27) rfl ?_
                  show Steps p.tables e below (T904.setTop (mkF m 28 #[.val (.ref a1), .val (.int (4 : Int32)), .val (.int (4 : Int32)), .val (.ref b904), .val (.int (4 : Int32)), .unset] [(.int (4 : Int32))])) _
                  refine XS.iconst X904.here hx rfl (hb hby d3_28) ?_
                  refine XS.isub X904.here hx rfl (hb hby d3_29) rfl ?_
                  refine XS.istore X904.here hx rfl (hb hby d3_30) rfl (l' := #[.val (.ref a1), .val (.int (4 : Int32)), .val (.int (4 : Int32)), .val (.ref b904), .val (.int (4 : Int32)), .val (.int (3 : Int32))]) rfl ?_
                  refine XS.iload X904.here hx rfl (hb hby d3_32) rfl ?_
                  show Steps p.tables e below (T904.setTop (mkF m 34 #[.val (.ref a1), .val (.int (4 : Int32)), .val (.int (4 : Int32)), .val (.ref b904), .val (.int (4 : Int32)), .val (.int (3 : Int32))] [(.int (3 : Int32))])) _
                  refine XS.ifNo X904.here hx rfl (hb hby d3_34) rfl ((if0 _ _).trans (flt (by decide)).1) ?_
                  refine XS.aloadN X904.here hx rfl (hb hby d3_37) rfl rfl ?_
                  refine XS.iload X904.here hx rfl (hb hby d3_38) rfl ?_
                  refine XS.iload X904.here hx rfl (hb hby d3_40) rfl ?_
                  show Steps p.tables e below (T904.setTop (mkF m 42 #[.val (.ref a1), .val (.int (4 : Int32)), .val (.int (4 : Int32)), .val (.ref b904), .val (.int (4 : Int32)), .val (.int (3 : Int32))] [(.int (4 : Int32)), (.int (3 : Int32)), (.ref b904)])) _
                  exact k
                obtain ⟨cl910, Ar910, qc910, S910, M910, Ha910, Ga910⟩ := id V904
                have hin910 : ¬ ((3 : Int32) < 0 ∨ cl910.slots.size ≤ ((3 : Int32)).toNatClampNeg) := inb_of S910 ⟨by decide, by decide⟩
                obtain ⟨T910, h910, X910, e910, W910, st910⟩ := stI X904 hx hZ e904 Ar910 (j := (3 : Int32)) hin910 (g := (mkF m 42 #[.val (.ref a1), .val (.int (4 : Int32)), .val (.int (4 : Int32)), .val (.ref b904), .val (.int (4 : Int32)), .val (.int (3 : Int32))] [(.int (4 : Int32)), (.int (3 : Int32)), (.ref b904)])) rfl rfl (hb hby d3_42)
                have V910 : Arv Z h910 b904 kn904 .int (4 : Int32) [(.int (0 : Int32)), (.int (0 : Int32)), (.int (0 : Int32)), (.int (4 : Int32))] (.int (0 : Int32)) := Arv.set Ar910 qc910 S910 M910 Ha910 Ga910 rfl W910 3 rfl (Nat.le_of_ble_eq_true rfl)
                have K911 : ∀ t, Steps p.tables e below (T910.setTop (mkF m 43 #[.val (.ref a1), .val (.int (4 : Int32)), .val (.int (4 : Int32)), .val (.ref b904), .val (.int (4 : Int32)), .val (.int (3 : Int32))] [])) t → Steps p.tables e below G t := fun t k => K909 t (st910 t k)
                have f912 := f905.other W910 ne_a1_b904
                have Z913 : n0 ≤ h910.size := Nat.le_trans Z906 (Keep.of_wr W910).1
                have KP914 : Keep h0 h910 [] := KP907.wr W910 (Or.inr sz_b904)
                have N915 := Fr.snoc X910 N0 g_b904
                have K916 : ∀ t, Steps p.tables e below (T910.setTop (mkF m 46 #[.val (.ref a1), .val (.int (4 : Int32)), .val (.int (4 : Int32)), .val (.ref b904), .val (.int (4 : Int32)), .val (.int (3 : Int32))] [(.int (4 : Int32)), (.ref a1)])) t → Steps p.tables e below G t := by
                  intro t k
                  refine K911 t ?_
                  show Steps p.tables e below (T910.setTop (mkF m 43 #[.val (.ref a1), .val (.int (4 : Int32)), .val (.int (4 : Int32)), .val (.ref b904), .val (.int (4 : Int32)), .val (.int (3 : Int32))] [])) _
                  refine XS.aloadN X910.here hx rfl (hb hby d3_43) rfl rfl ?_
                  refine XS.iload X910.here hx rfl (hb hby d3_44) rfl ?_
                  show Steps p.tables e below (T910.setTop (mkF m 46 #[.val (.ref a1), .val (.int (4 : Int32)), .val (.int (4 : Int32)), .val (.ref b904), .val (.int (4 : Int32)), .val (.int (3 : Int32))] [(.int (4 : Int32)), (.ref a1)])) _
                  exact k
                obtain ⟨cl917, Ar917, qc917, S917, M917, Ha917, Ga917⟩ := id f912
                have hin917 : ¬ ((4 : Int32) < 0 ∨ cl917.slots.size ≤ ((4 : Int32)).toNatClampNeg) := inb_of S917 ⟨by decide, by decide⟩
                have hat917 : cl917.slots[((4 : Int32)).toNatClampNeg]? = some (.int (3 : Int32)) := Ha917.at hin917 rfl
                have K918 : ∀ t, Steps p.tables e below (T910.setTop (mkF m 47 #[.val (.ref a1), .val (.int (4 : Int32)), .val (.int (4 : Int32)), .val (.ref b904), .val (.int (4 : Int32)), .val (.int (3 : Int32))] [(.int (3 : Int32))])) t → Steps p.tables e below G t := fun t k => K916 t (X910.iaload hx (j := (4 : Int32)) (v := (.int (3 : Int32))) (by rw [e910]; exact Ar917.1) (State.isArrayOf_alike hZ.alike Ar917.2.1) Ar917.2.2 hin917 hat917 (g := (mkF m 46 #[.val (.ref a1), .val (.int (4 : Int32)), .val (.int (4 : Int32)), .val (.ref b904), .val (.int (4 : Int32)), .val (.int (3 : Int32))] [(.int (4 : Int32)), (.ref a1)])) rfl rfl (hb hby d3_46) _ k)
                have K919 : ∀ t, Steps p.tables e below (T910.setTop (mkF m 42 #[.val (.ref a1), .val (.int (4 : Int32)), .val (.int (4 : Int32)), .val (.ref b904), .val (.int (3 : Int32)), .val (.int (2 : Int32))] [(.int (3 : Int32)), (.int (2 : Int32)), (.ref b904)])) t → Steps p.tables e below G t := by
                  intro t k
                  refine K918 t ?_
                  show Steps p.tables e below (T910.setTop (mkF m 47 #[.val (.ref a1), .val (.int (4 : Int32)), .val (.int (4 : Int32)), .val (.ref b904), .val (.int (4 : Int32)), .val (.int (3 : Int32))] [(.int (3 : Int32))])) _
                  refine XS.istore X910.here hx rfl (hb hby d3_47) rfl (l' := #[.val (.ref a1), .val (.int (4 : Int32)), .val (.int (4 : Int32)), .val (.ref b904), .val (.int (3 : Int32)), .val (.int (3 : Int32))]) rfl ?_
                  refine XS.iinc X910.here hx rfl (hb hby d3_49) rfl (l' := #[.val (.ref a1), .val (.int (4 : Int32)), .val (.int (4 : Int32)), .val (.ref b904), .val (.int (3 : Int32)), .val (.int (2 : Int32))]) rfl ?_
                  refine XS.goto X910.here hx rfl (pc0 := 52) (pc' := 32) rfl (hb hby d3_52) (by decide) (by decide) ?_
                  refine XS.iload X910.here hx rfl (hb hby d3_32) rfl ?_
                  show Steps p.tables e below (T910.setTop (mkF m 34 #[.val (.ref a1), .val (.int (4 : Int32)), .val (.int (4 : Int32)), .val (.ref b904), .val (.int (3 : Int32)), .val (.int (2 : Int32))] [(.int (2 : Int32))])) _
                  refine XS.ifNo X910.here hx rfl (hb hby d3_34) rfl ((if0 _ _).trans (flt (by decide)).1) ?_
                  refine XS.aloadN X910.here hx rfl (hb hby d3_37) rfl rfl ?_
                  refine XS.iload X910.here hx rfl (hb hby d3_38) rfl ?_
                  refine XS.iload X910.here hx rfl (hb hby d3_40) rfl ?_
                  show Steps p.tables e below (T910.setTop (mkF m 42 #[.val (.ref a1), .val (.int (4 : Int32)), .val (.int (4 : Int32)), .val (.ref b904), .val (.int (3 : Int32)), .val (.int (2 : Int32))] [(.int (3 : Int32)), (.int (2 : Int32)), (.ref b904)])) _
                  exact k
                obtain ⟨cl920, Ar920, qc920, S920, M920, Ha920, Ga920⟩ := id V910
                have hin920 : ¬ ((2 : Int32) < 0 ∨ cl920.slots.size ≤ ((2 : Int32)).toNatClampNeg) := inb_of S920 ⟨by decide, by decide⟩
                obtain ⟨T920, h920, X920, e920, W920, st920⟩ := stI X910 hx hZ e910 Ar920 (j := (2 : Int32)) hin920 (g := (mkF m 42 #[.val (.ref a1), .val (.int (4 : Int32)), .val (.int (4 : Int32)), .val (.ref b904), .val (.int (3 : Int32)), .val (.int (2 : Int32))] [(.int (3 : Int32)), (.int (2 : Int32)), (.ref b904)])) rfl rfl (hb hby d3_42)
                have V920 : Arv Z h920 b904 kn904 .int (4 : Int32) [(.int (0 : Int32)), (.int (0 : Int32)), (.int (3 : Int32)), (.int (4 : Int32))] (.int (0 : Int32)) := Arv.set Ar920 qc920 S920 M920 Ha920 Ga920 rfl W920 2 rfl (Nat.le_of_ble_eq_true rfl)
                have K921 : ∀ t, Steps p.tables e below (T920.setTop (mkF m 43 #[.val (.ref a1), .val (.int (4 : Int32)), .val (.int (4 : Int32)), .val (.ref b904), .val (.int (3 : Int32)), .val (.int (2 : Int32))] [])) t → Steps p.tables e below G t := fun t k => K919 t (st920 t k)
                have f922 := f912.other W920 ne_a1_b904
                have Z923 : n0 ≤ h920.size := Nat.le_trans Z913 (Keep.of_wr W920).1
                have KP924 : Keep h0 h920 [] := KP914.wr W920 (Or.inr sz_b904)
                have N925 := Fr.snoc X920 N915 g_b904
                have K926 : ∀ t, Steps p.tables e below (T920.setTop (mkF m 46 #[.val (.ref a1), .val (.int (4 : Int32)), .val (.int (4 : Int32)), .val (.ref b904), .val (.int (3 : Int32)), .val (.int (2 : Int32))] [(.int (3 : Int32)), (.ref a1)])) t → Steps p.tables e below G t := by
                  intro t k
                  refine K921 t ?_
                  show Steps p.tables e below (T920.setTop (mkF m 43 #[.val (.ref a1), .val (.int (4 : Int32)), .val (.int (4 : Int32)), .val (.ref b904), .val (.int (3 : Int32)), .val (.int (2 : Int32))] [])) _
                  refine XS.aloadN X920.here hx rfl (hb hby d3_43) rfl rfl ?_
                  refine XS.iload X920.here hx rfl (hb hby d3_44) rfl ?_
                  show Steps p.tables e below (T920.setTop (mkF m 46 #[.val (.ref a1), .val (.int (4 : Int32)), .val (.int (4 : Int32)), .val (.ref b904), .val (.int (3 : Int32)), .val (.int (2 : Int32))] [(.int (3 : Int32)), (.ref a1)])) _
                  exact k
                obtain ⟨cl927, Ar927, qc927, S927, M927, Ha927, Ga927⟩ := id f922
                have hin927 : ¬ ((3 : Int32) < 0 ∨ cl927.slots.size ≤ ((3 : Int32)).toNatClampNeg) := inb_of S927 ⟨by decide, by decide⟩
                have hat927 : cl927.slots[((3 : Int32)).toNatClampNeg]? = some (.int (1 : Int32)) := Ha927.at hin927 rfl
                have K928 : ∀ t, Steps p.tables e below (T920.setTop (mkF m 47 #[.val (.ref a1), .val (.int (4 : Int32)), .val (.int (4 : Int32)), .val (.ref b904), .val (.int (3 : Int32)), .val (.int (2 : Int32))] [(.int (1 : Int32))])) t → Steps p.tables e below G t := fun t k => K926 t (X920.iaload hx (j := (3 : Int32)) (v := (.int (1 : Int32))) (by rw [e920]; exact Ar927.1) (State.isArrayOf_alike hZ.alike Ar927.2.1) Ar927.2.2 hin927 hat927 (g := (mkF m 46 #[.val (.ref a1), .val (.int (4 : Int32)), .val (.int (4 : Int32)), .val (.ref b904), .val (.int (3 : Int32)), .val (.int (2 : Int32))] [(.int (3 : Int32)), (.ref a1)])) rfl rfl (hb hby d3_46) _ k)
                have K929 : ∀ t, Steps p.tables e below (T920.setTop (mkF m 42 #[.val (.ref a1), .val (.int (4 : Int32)), .val (.int (4 : Int32)), .val (.ref b904), .val (.int (1 : Int32)), .val (.int (1 : Int32))] [(.int (1 : Int32)), (.int (1 : Int32)), (.ref b904)])) t → Steps p.tables e below G t := by
                  intro t k
                  refine K928 t ?_
                  show Steps p.tables e below (T920.setTop (mkF m 47 #[.val (.ref a1), .val (.int (4 : Int32)), .val (.int (4 : Int32)), .val (.ref b904), .val (.int (3 : Int32)), .val (.int (2 : Int32))] [(.int (1 : Int32))])) _
                  refine XS.istore X920.here hx rfl (hb hby d3_47) rfl (l' := #[.val (.ref a1), .val (.int (4 : Int32)), .val (.int (4 : Int32)), .val (.ref b904), .val (.int (1 : Int32)), .val (.int (2 : Int32))]) rfl ?_
                  refine XS.iinc X920.here hx rfl (hb hby d3_49) rfl (l' := #[.val (.ref a1), .val (.int (4 : Int32)), .val (.int (4 : Int32)), .val (.ref b904), .val (.int (1 : Int32)), .val (.int (1 : Int32))]) rfl ?_
                  refine XS.goto X920.here hx rfl (pc0 := 52) (pc' := 32) rfl (hb hby d3_52) (by decide) (by decide) ?_
                  refine XS.iload X920.here hx rfl (hb hby d3_32) rfl ?_
                  show Steps p.tables e below (T920.setTop (mkF m 34 #[.val (.ref a1), .val (.int (4 : Int32)), .val (.int (4 : Int32)), .val (.ref b904), .val (.int (1 : Int32)), .val (.int (1 : Int32))] [(.int (1 : Int32))])) _
                  refine XS.ifNo X920.here hx rfl (hb hby d3_34) rfl ((if0 _ _).trans (flt (by decide)).1) ?_
                  refine XS.aloadN X920.here hx rfl (hb hby d3_37) rfl rfl ?_
                  refine XS.iload X920.here hx rfl (hb hby d3_38) rfl ?_
                  refine XS.iload X920.here hx rfl (hb hby d3_40) rfl ?_
                  show Steps p.tables e below (T920.setTop (mkF m 42 #[.val (.ref a1), .val (.int (4 : Int32)), .val (.int (4 : Int32)), .val (.ref b904), .val (.int (1 : Int32)), .val (.int (1 : Int32))] [(.int (1 : Int32)), (.int (1 : Int32)), (.ref b904)])) _
                  exact k
                obtain ⟨cl930, Ar930, qc930, S930, M930, Ha930, Ga930⟩ := id V920
                have hin930 : ¬ ((1 : Int32) < 0 ∨ cl930.slots.size ≤ ((1 : Int32)).toNatClampNeg) := inb_of S930 ⟨by decide, by decide⟩
                obtain ⟨T930, h930, X930, e930, W930, st930⟩ := stI X920 hx hZ e920 Ar930 (j := (1 : Int32)) hin930 (g := (mkF m 42 #[.val (.ref a1), .val (.int (4 : Int32)), .val (.int (4 : Int32)), .val (.ref b904), .val (.int (1 : Int32)), .val (.int (1 : Int32))] [(.int (1 : Int32)), (.int (1 : Int32)), (.ref b904)])) rfl rfl (hb hby d3_42)
                have V930 : Arv Z h930 b904 kn904 .int (4 : Int32) [(.int (0 : Int32)), (.int (1 : Int32)), (.int (3 : Int32)), (.int (4 : Int32))] (.int (0 : Int32)) := Arv.set Ar930 qc930 S930 M930 Ha930 Ga930 rfl W930 1 rfl (Nat.le_of_ble_eq_true rfl)
                have K931 : ∀ t, Steps p.tables e below (T930.setTop (mkF m 43 #[.val (.ref a1), .val (.int (4 : Int32)), .val (.int (4 : Int32)), .val (.ref b904), .val (.int (1 : Int32)), .val (.int (1 : Int32))] [])) t → Steps p.tables e below G t := fun t k => K929 t (st930 t k)
                have f932 := f922.other W930 ne_a1_b904
                have Z933 : n0 ≤ h930.size := Nat.le_trans Z923 (Keep.of_wr W930).1
                have KP934 : Keep h0 h930 [] := KP924.wr W930 (Or.inr sz_b904)
                have N935 := Fr.snoc X930 N925 g_b904
                have K936 : ∀ t, Steps p.tables e below (T930.setTop (mkF m 46 #[.val (.ref a1), .val (.int (4 : Int32)), .val (.int (4 : Int32)), .val (.ref b904), .val (.int (1 : Int32)), .val (.int (1 : Int32))] [(.int (1 : Int32)), (.ref a1)])) t → Steps p.tables e below G t := by
                  intro t k
                  refine K931 t ?_
                  show Steps p.tables e below (T930.setTop (mkF m 43 #[.val (.ref a1), .val (.int (4 : Int32)), .val (.int (4 : Int32)), .val (.ref b904), .val (.int (1 : Int32)), .val (.int (1 : Int32))] [])) _
                  refine XS.aloadN X930.here hx rfl (hb hby d3_43) rfl rfl ?_
                  refine XS.iload X930.here hx rfl (hb hby d3_44) rfl ?_
                  show Steps p.tables e below (T930.setTop (mkF m 46 #[.val (.ref a1), .val (.int (4 : Int32)), .val (.int (4 : Int32)), .val (.ref b904), .val (.int (1 : Int32)), .val (.int (1 : Int32))] [(.int (1 : Int32)), (.ref a1)])) _
                  exact k
                obtain ⟨cl937, Ar937, qc937, S937, M937, Ha937, Ga937⟩ := id f932
                have hin937 : ¬ ((1 : Int32) < 0 ∨ cl937.slots.size ≤ ((1 : Int32)).toNatClampNeg) := inb_of S937 ⟨by decide, by decide⟩
                have hat937 : cl937.slots[((1 : Int32)).toNatClampNeg]? = some (.int (0 : Int32)) := Ha937.at hin937 rfl
                have K938 : ∀ t, Steps p.tables e below (T930.setTop (mkF m 47 #[.val (.ref a1), .val (.int (4 : Int32)), .val (.int (4 : Int32)), .val (.ref b904), .val (.int (1 : Int32)), .val (.int (1 : Int32))] [(.int (0 : Int32))])) t → Steps p.tables e below G t := fun t k => K936 t (X930.iaload hx (j := (1 : Int32)) (v := (.int (0 : Int32))) (by rw [e930]; exact Ar937.1) (State.isArrayOf_alike hZ.alike Ar937.2.1) Ar937.2.2 hin937 hat937 (g := (mkF m 46 #[.val (.ref a1), .val (.int (4 : Int32)), .val (.int (4 : Int32)), .val (.ref b904), .val (.int (1 : Int32)), .val (.int (1 : Int32))] [(.int (1 : Int32)), (.ref a1)])) rfl rfl (hb hby d3_46) _ k)
                have K939 : ∀ t, Steps p.tables e below (T930.setTop (mkF m 42 #[.val (.ref a1), .val (.int (4 : Int32)), .val (.int (4 : Int32)), .val (.ref b904), .val (.int (0 : Int32)), .val (.int (0 : Int32))] [(.int (0 : Int32)), (.int (0 : Int32)), (.ref b904)])) t → Steps p.tables e below G t := by
                  intro t k
                  refine K938 t ?_
                  show Steps p.tables e below (T930.setTop (mkF m 47 #[.val (.ref a1), .val (.int (4 : Int32)), .val (.int (4 : Int32)), .val (.ref b904), .val (.int (1 : Int32)), .val (.int (1 : Int32))] [(.int (0 : Int32))])) _
                  refine XS.istore X930.here hx rfl (hb hby d3_47) rfl (l' := #[.val (.ref a1), .val (.int (4 : Int32)), .val (.int (4 : Int32)), .val (.ref b904), .val (.int (0 : Int32)), .val (.int (1 : Int32))]) rfl ?_
                  refine XS.iinc X930.here hx rfl (hb hby d3_49) rfl (l' := #[.val (.ref a1), .val (.int (4 : Int32)), .val (.int (4 : Int32)), .val (.ref b904), .val (.int (0 : Int32)), .val (.int (0 : Int32))]) rfl ?_
                  refine XS.goto X930.here hx rfl (pc0 := 52) (pc' := 32) rfl (hb hby d3_52) (by decide) (by decide) ?_
                  refine XS.iload X930.here hx rfl (hb hby d3_32) rfl ?_
                  show Steps p.tables e below (T930.setTop (mkF m 34 #[.val (.ref a1), .val (.int (4 : Int32)), .val (.int (4 : Int32)), .val (.ref b904), .val (.int (0 : Int32)), .val (.int (0 : Int32))] [(.int (0 : Int32))])) _
                  refine XS.ifNo X930.here hx rfl (hb hby d3_34) rfl ((if0 _ _).trans (flt (by decide)).1) ?_
                  refine XS.aloadN X930.here hx rfl (hb hby d3_37) rfl rfl ?_
                  refine XS.iload X930.here hx rfl (hb hby d3_38) rfl ?_
                  refine XS.iload X930.here hx rfl (hb hby d3_40) rfl ?_
                  show Steps p.tables e below (T930.setTop (mkF m 42 #[.val (.ref a1), .val (.int (4 : Int32)), .val (.int (4 : Int32)), .val (.ref b904), .val (.int (0 : Int32)), .val (.int (0 : Int32))] [(.int (0 : Int32)), (.int (0 : Int32)), (.ref b904)])) _
                  exact k
                obtain ⟨cl940, Ar940, qc940, S940, M940, Ha940, Ga940⟩ := id V930
                have hin940 : ¬ ((0 : Int32) < 0 ∨ cl940.slots.size ≤ ((0 : Int32)).toNatClampNeg) := inb_of S940 ⟨by decide, by decide⟩
                obtain ⟨T940, h940, X940, e940, W940, st940⟩ := stI X930 hx hZ e930 Ar940 (j := (0 : Int32)) hin940 (g := (mkF m 42 #[.val (.ref a1), .val (.int (4 : Int32)), .val (.int (4 : Int32)), .val (.ref b904), .val (.int (0 : Int32)), .val (.int (0 : Int32))] [(.int (0 : Int32)), (.int (0 : Int32)), (.ref b904)])) rfl rfl (hb hby d3_42)
                have V940 : Arv Z h940 b904 kn904 .int (4 : Int32) [(.int (0 : Int32)), (.int (1 : Int32)), (.int (3 : Int32)), (.int (4 : Int32))] (.int (0 : Int32)) := Arv.set Ar940 qc940 S940 M940 Ha940 Ga940 rfl W940 0 rfl (Nat.le_of_ble_eq_true rfl)
                have K941 : ∀ t, Steps p.tables e below (T940.setTop (mkF m 43 #[.val (.ref a1), .val (.int (4 : Int32)), .val (.int (4 : Int32)), .val (.ref b904), .val (.int (0 : Int32)), .val (.int (0 : Int32))] [])) t → Steps p.tables e below G t := fun t k => K939 t (st940 t k)
                have f942 := f932.other W940 ne_a1_b904
                have Z943 : n0 ≤ h940.size := Nat.le_trans Z933 (Keep.of_wr W940).1
                have KP944 : Keep h0 h940 [] := KP934.wr W940 (Or.inr sz_b904)
                have N945 := Fr.snoc X940 N935 g_b904
                have K946 : ∀ t, Steps p.tables e below (T940.setTop (mkF m 46 #[.val (.ref a1), .val (.int (4 : Int32)), .val (.int (4 : Int32)), .val (.ref b904), .val (.int (0 : Int32)), .val (.int (0 : Int32))] [(.int (0 : Int32)), (.ref a1)])) t → Steps p.tables e below G t := by
                  intro t k
                  refine K941 t ?_
                  show Steps p.tables e below (T940.setTop (mkF m 43 #[.val (.ref a1), .val (.int (4 : Int32)), .val (.int (4 : Int32)), .val (.ref b904), .val (.int (0 : Int32)), .val (.int (0 : Int32))] [])) _
                  refine XS.aloadN X940.here hx rfl (hb hby d3_43) rfl rfl ?_
                  refine XS.iload X940.here hx rfl (hb hby d3_44) rfl ?_
                  show Steps p.tables e below (T940.setTop (mkF m 46 #[.val (.ref a1), .val (.int (4 : Int32)), .val (.int (4 : Int32)), .val (.ref b904), .val (.int (0 : Int32)), .val (.int (0 : Int32))] [(.int (0 : Int32)), (.ref a1)])) _
                  exact k
                obtain ⟨cl947, Ar947, qc947, S947, M947, Ha947, Ga947⟩ := id f942
                have hin947 : ¬ ((0 : Int32) < 0 ∨ cl947.slots.size ≤ ((0 : Int32)).toNatClampNeg) := inb_of S947 ⟨by decide, by decide⟩
                have hat947 : cl947.slots[((0 : Int32)).toNatClampNeg]? = some (.int q0) := Ha947.at hin947 rfl
                have K948 : ∀ t, Steps p.tables e below (T940.setTop (mkF m 47 #[.val (.ref a1), .val (.int (4 : Int32)), .val (.int (4 : Int32)), .val (.ref b904), .val (.int (0 : Int32)), .val (.int (0 : Int32))] [(.int q0)])) t → Steps p.tables e below G t := fun t k => K946 t (X940.iaload hx (j := (0 : Int32)) (v := (.int q0)) (by rw [e940]; exact Ar947.1) (State.isArrayOf_alike hZ.alike Ar947.2.1) Ar947.2.2 hin947 hat947 (g := (mkF m 46 #[.val (.ref a1), .val (.int (4 : Int32)), .val (.int (4 : Int32)), .val (.ref b904), .val (.int (0 : Int32)), .val (.int (0 : Int32))] [(.int (0 : Int32)), (.ref a1)])) rfl rfl (hb hby d3_46) _ k)
                obtain ⟨fs, hr, hrun, hended, hW, hsame⟩ := X940.leave (v := some (.ref b904)) (fun h => by rw [Bd.returns] at h; cases h)
                have KF := K948
                rw [hG] at KF
                refine ⟨_, _, KF _ ?_, hrun, hended, _, _, rfl, ?_, ⟨_, rfl⟩, hW, hsame.mono (by decide) (by decide)⟩
                · show Steps p.tables e below (T940.setTop (mkF m 47 #[.val (.ref a1), .val (.int (4 : Int32)), .val (.int (4 : Int32)), .val (.ref b904), .val (.int (0 : Int32)), .val (.int (0 : Int32))] [(.int q0)])) _
                  refine XS.istore X940.here hx rfl (hb hby d3_47) rfl (l' := #[.val (.ref a1), .val (.int (4 : Int32)), .val (.int (4 : Int32)), .val (.ref b904), .val (.int q0), .val (.int (0 : Int32))]) rfl ?_
                  refine XS.iinc X940.here hx rfl (hb hby d3_49) rfl (l' := #[.val (.ref a1), .val (.int (4 : Int32)), .val (.int (4 : Int32)), .val (.ref b904), .val (.int q0), .val (.int (-1 : Int32))]) rfl ?_
                  refine XS.goto X940.here hx rfl (pc0 := 52) (pc' := 32) rfl (hb hby d3_52) (by decide) (by decide) ?_
                  refine XS.iload X940.here hx rfl (hb hby d3_32) rfl ?_
                  show Steps p.tables e below (T940.setTop (mkF m 34 #[.val (.ref a1), .val (.int (4 : Int32)), .val (.int (4 : Int32)), .val (.ref b904), .val (.int q0), .val (.int (-1 : Int32))] [(.int (-1 : Int32))])) _
                  refine XS.ifYes X940.here hx rfl (pc0 := 34) (pc' := 55) rfl (hb hby d3_34) rfl ((if0 _ _).trans (tlt (by decide)).1) (by decide) (by decide) ?_
                  refine XS.aloadN X940.here hx rfl (hb hby d3_55) rfl rfl ?_
                  show Steps p.tables e below (T940.setTop (mkF m 56 #[.val (.ref a1), .val (.int (4 : Int32)), .val (.int (4 : Int32)), .val (.ref b904), .val (.int q0), .val (.int (-1 : Int32))] [(.ref b904)])) _
                  exact own_retA X940 hx Bd.returns rfl rfl rfl (hb hby d3_56) hr
                · show Q3 Z (4 : Int32) [(.int q0), (.int (0 : Int32)), (.int q2), (.int (1 : Int32)), (.int (3 : Int32))] h0 n0 _ T940.heap _
                  rw [e940]
                  exact ⟨_, _, _, _, rfl, N945, KP944, sz_b904, V940, ⟨by decide, by decide⟩, ⟨by decide, by decide⟩, rfl, Or.inr ⟨0, q0, 0, by decide, rfl, ⟨by decide, by decide⟩, rfl, Or.inl ⟨rfl, hq0⟩⟩, Or.inr ⟨1, 0, 0, by decide, rfl, ⟨by decide, by decide⟩, rfl, Or.inr ⟨by decide, ⟨by decide, by decide⟩, rfl, rfl⟩⟩, Or.inr ⟨3, 1, 1, by decide, rfl, ⟨by decide, by decide⟩, rfl, Or.inr ⟨by decide, ⟨by decide, by decide⟩, rfl, rfl⟩⟩, Or.inr ⟨4, 3, 3, by decide, rfl, ⟨by decide, by decide⟩, rfl, Or.inr ⟨by decide, ⟨by decide, by decide⟩, rfl, rfl⟩⟩, Or.inl (by decide)⟩
          · have K949 : ∀ t, Steps p.tables e below (s₁.setTop (mkF m 6 #[.val (.ref a1), .val (.int (4 : Int32)), .val (.int (3 : Int32)), .val (.int (2 : Int32)), .unset, .unset] [(.int (2 : Int32)), (.ref a1)])) t → Steps p.tables e below G t := by
              intro t k
              refine K816 t ?_
              show Steps p.tables e below (s₁.setTop (mkF m 4 #[.val (.ref a1), .val (.int (4 : Int32)), .val (.int (3 : Int32)), .val (.int (2 : Int32)), .unset, .unset] [])) _
              refine XS.aloadN X0.here hx rfl (hb hby d3_4) rfl rfl ?_
              refine XS.iloadN X0.here hx rfl (hb hby d3_5) rfl ?_
              show Steps p.tables e below (s₁.setTop (mkF m 6 #[.val (.ref a1), .val (.int (4 : Int32)), .val (.int (3 : Int32)), .val (.int (2 : Int32)), .unset, .unset] [(.int (2 : Int32)), (.ref a1)])) _
              exact k
            obtain ⟨cl950, Ar950, qc950, S950, M950, Ha950, Ga950⟩ := id V1
            have hin950 : ¬ ((2 : Int32) < 0 ∨ cl950.slots.size ≤ ((2 : Int32)).toNatClampNeg) := inb_of S950 ⟨by decide, by decide⟩
            have hat950 : cl950.slots[((2 : Int32)).toNatClampNeg]? = some (.int q2) := Ha950.at hin950 rfl
            have K951 : ∀ t, Steps p.tables e below (s₁.setTop (mkF m 7 #[.val (.ref a1), .val (.int (4 : Int32)), .val (.int (3 : Int32)), .val (.int (2 : Int32)), .unset, .unset] [(.int q2)])) t → Steps p.tables e below G t := fun t k => K949 t (X0.iaload hx (j := (2 : Int32)) (v := (.int q2)) (by rw [e0]; exact Ar950.1) (State.isArrayOf_alike hZ.alike Ar950.2.1) Ar950.2.2 hin950 hat950 (g := (mkF m 6 #[.val (.ref a1), .val (.int (4 : Int32)), .val (.int (3 : Int32)), .val (.int (2 : Int32)), .unset, .unset] [(.int (2 : Int32)), (.ref a1)])) rfl rfl (hb hby d3_6) _ k)
            by_cases hc952 : q2 < (0 : Int32)
            · have K953 : ∀ t, Steps p.tables e below (s₁.setTop (mkF m 21 #[.val (.ref a1), .val (.int (4 : Int32)), .val (.int (3 : Int32)), .val (.int (2 : Int32)), .unset, .unset] [(.int (3 : Int32))])) t → Steps p.tables e below G t := by
                intro t k
                refine K951 t ?_
                show Steps p.tables e below (s₁.setTop (mkF m 7 #[.val (.ref a1), .val (.int (4 : Int32)), .val (.int (3 : Int32)), .val (.int (2 : Int32)), .unset, .unset] [(.int q2)])) _
                refine XS.ifYes X0.here hx rfl (pc0 := 7) (pc' := 20) rfl (hb hby d3_7) rfl ((if0 _ _).trans (tlt hc952).1) (by decide) (by decide) ?_
                refine XS.iloadN X0.here hx rfl (hb hby d3_20) rfl ?_
                show Steps p.tables e below (s₁.setTop (mkF m 21 #[.val (.ref a1), .val (.int (4 : Int32)), .val (.int (3 : Int32)), .val (.int (2 : Int32)), .unset, .unset] [(.int (3 : Int32))])) _
                exact k
              obtain ⟨T954, h954, kn954, X954, e954, E954, A954, st954⟩ := newP X0 hx hZ (hw _ (List.mem_of_getElem? (i := 8) rfl)) e0 (g := (mkF m 21 #[.val (.ref a1), .val (.int (4 : Int32)), .val (.int (3 : Int32)), .val (.int (2 : Int32)), .unset, .unset] [(.int (3 : Int32))])) rfl (hb hby d3_21) rfl (by decide) (cap := 3) (by decide) (by decide) (by decide) (by decide)
              obtain ⟨b954, g954⟩ : ∃ z, z = h0.size := ⟨_, rfl⟩
              rw [← g954] at A954 st954
              have ne_a1_b954 : a1 ≠ b954 := Nat.ne_of_lt (Nat.lt_of_lt_of_le V1.lt (Nat.le_of_eq g954.symm))
              have g_b954 : n0 ≤ b954 := Nat.le_trans Z0 (Nat.le_of_eq g954.symm)
              have sz_b954 : h0.size ≤ b954 := Nat.le_trans KP0.1 (Nat.le_of_eq g954.symm)
              have f955 := V1.ext E954
              have Z956 : n0 ≤ h954.size := Nat.le_trans Z0 E954.1
              have KP957 : Keep h0 h954 [] := KP0.ext E954
              have K958 : ∀ t, Steps p.tables e below (T954.setTop (mkF m 23 #[.val (.ref a1), .val (.int (4 : Int32)), .val (.int (3 : Int32)), .val (.int (2 : Int32)), .unset, .unset] [(.ref b954)])) t → Steps p.tables e below G t := fun t k => K953 t (st954 t k)
              have V954 : Arv Z h954 b954 kn954 .int (3 : Int32) [(.int (0 : Int32)), (.int (0 : Int32)), (.int (0 : Int32))] (.int (0 : Int32)) := (Arv.new A954 (by decide)).pad (pad_rep [] (.int (0 : Int32)) 3)
              have K959 : ∀ t, Steps p.tables e below (T954.setTop (mkF m 42 #[.val (.ref a1), .val (.int (4 : Int32)), .val (.int (3 : Int32)), .val (.ref b954), .val (.int (4 : Int32)), .val (.int (2 : Int32))] [(.int (4 : Int32)), (.int (2 : Int32)), (.ref b954)])) t → Steps p.tables e below G t := by
                intro t k
                refine K958 t ?_
                show Steps p.tables e below (T954.setTop (mkF m 23 #[.val (.ref a1), .val (.int (4 : Int32)), .val (.int (3 : Int32)), .val (.int (2 : Int32)), .unset, .unset] [(.ref b954)])) _
                refine XS.astoreN X954.here hx rfl (hb hby d3_23) rfl rfl (l' := #[.val (.ref a1), .val (.int (4 : Int32)), .val (.int (3 : Int32)), .val (.ref b954), .unset, .unset]) rfl ?_
                refine XS.iloadN X954.here hx rfl (hb hby d3_24) rfl ?_
                refine XS.istore X954.here hx rfl (hb hby d3_25) rfl (l' := #[.val (.ref a1), .val (.int (4 : Int32)), .val (.int (3 : Int32)), .val (.ref b954), .val (.int (4 : Int32)), .unset]) rfl ?_
                refine XS.iloadN X954.here hx rfl (hb hby d3_27) rfl ?_
                show Steps p.tables e below (T954.setTop (mkF m 28 #[.val (.ref a1), .val (.int (4 : Int32)), .val (.int (3 : Int32)), .val (.ref b954), .val (.int (4 : Int32)), .unset] [(.int (3 : Int32))])) _
                refine XS.iconst X954.here hx rfl (hb hby d3_28) ?_
                refine XS.isub X954.here hx rfl (hb hby d3_29) rfl ?_
                refine XS.istore X954.here hx rfl (hb hby d3_30) rfl (l' := #[.val (.ref a1), .val (.int (4 : Int32)), .val (.int (3 : Int32)), .val (.ref b954), .val (.int (4 : Int32)), .val (.int (2 : Int32))]) rfl ?_
                refine XS.iload X954.here hx rfl (hb hby d3_32) rfl ?_
                show Steps p.tables e below (T954.setTop (mkF m 34 #[.val (.ref a1), .val (.int (4 : Int32)), .val (.int (3 : Int32)), .val (.ref b954), .val (.int (4 : Int32)), .val (.int (2 : Int32))] [(.int (2 : Int32))])) _
                refine XS.ifNo X954.here hx rfl (hb hby d3_34) rfl ((if0 _ _).trans (flt (by decide)).1) ?_
                refine XS.aloadN X954.here hx rfl (hb hby d3_37) rfl rfl ?_
                refine XS.iload X954.here hx rfl (hb hby d3_38) rfl ?_
                refine XS.iload X954.here hx rfl (hb hby d3_40) rfl ?_
                show Steps p.tables e below (T954.setTop (mkF m 42 #[.val (.ref a1), .val (.int (4 : Int32)), .val (.int (3 : Int32)), .val (.ref b954), .val (.int (4 : Int32)), .val (.int (2 : Int32))] [(.int (4 : Int32)), (.int (2 : Int32)), (.ref b954)])) _
                exact k
              obtain ⟨cl960, Ar960, qc960, S960, M960, Ha960, Ga960⟩ := id V954
              have hin960 : ¬ ((2 : Int32) < 0 ∨ cl960.slots.size ≤ ((2 : Int32)).toNatClampNeg) := inb_of S960 ⟨by decide, by decide⟩
              obtain ⟨T960, h960, X960, e960, W960, st960⟩ := stI X954 hx hZ e954 Ar960 (j := (2 : Int32)) hin960 (g := (mkF m 42 #[.val (.ref a1), .val (.int (4 : Int32)), .val (.int (3 : Int32)), .val (.ref b954), .val (.int (4 : Int32)), .val (.int (2 : Int32))] [(.int (4 : Int32)), (.int (2 : Int32)), (.ref b954)])) rfl rfl (hb hby d3_42)
              have V960 : Arv Z h960 b954 kn954 .int (3 : Int32) [(.int (0 : Int32)), (.int (0 : Int32)), (.int (4 : Int32))] (.int (0 : Int32)) := Arv.set Ar960 qc960 S960 M960 Ha960 Ga960 rfl W960 2 rfl (Nat.le_of_ble_eq_true rfl)
              have K961 : ∀ t, Steps p.tables e below (T960.setTop (mkF m 43 #[.val (.ref a1), .val (.int (4 : Int32)), .val (.int (3 : Int32)), .val (.ref b954), .val (.int (4 : Int32)), .val (.int (2 : Int32))] [])) t → Steps p.tables e below G t := fun t k => K959 t (st960 t k)
              have f962 := f955.other W960 ne_a1_b954
              have Z963 : n0 ≤ h960.size := Nat.le_trans Z956 (Keep.of_wr W960).1
              have KP964 : Keep h0 h960 [] := KP957.wr W960 (Or.inr sz_b954)
              have N965 := Fr.snoc X960 N0 g_b954
              have K966 : ∀ t, Steps p.tables e below (T960.setTop (mkF m 46 #[.val (.ref a1), .val (.int (4 : Int32)), .val (.int (3 : Int32)), .val (.ref b954), .val (.int (4 : Int32)), .val (.int (2 : Int32))] [(.int (4 : Int32)), (.ref a1)])) t → Steps p.tables e below G t := by
                intro t k
                refine K961 t ?_
                show Steps p.tables e below (T960.setTop (mkF m 43 #[.val (.ref a1), .val (.int (4 : Int32)), .val (.int (3 : Int32)), .val (.ref b954), .val (.int (4 : Int32)), .val (.int (2 : Int32))] [])) _
                refine XS.aloadN X960.here hx rfl (hb hby d3_43) rfl rfl ?_
                refine XS.iload X960.here hx rfl (hb hby d3_44) rfl ?_
                show Steps p.tables e below (T960.setTop (mkF m 46 #[.val (.ref a1), .val (.int (4 : Int32)), .val (.int (3 : Int32)), .val (.ref b954), .val (.int (4 : Int32)), .val (.int (2 : Int32))] [(.int (4 : Int32)), (.ref a1)])) _
                exact k
              obtain ⟨cl967, Ar967, qc967, S967, M967, Ha967, Ga967⟩ := id f962
              have hin967 : ¬ ((4 : Int32) < 0 ∨ cl967.slots.size ≤ ((4 : Int32)).toNatClampNeg) := inb_of S967 ⟨by decide, by decide⟩
              have hat967 : cl967.slots[((4 : Int32)).toNatClampNeg]? = some (.int (3 : Int32)) := Ha967.at hin967 rfl
              have K968 : ∀ t, Steps p.tables e below (T960.setTop (mkF m 47 #[.val (.ref a1), .val (.int (4 : Int32)), .val (.int (3 : Int32)), .val (.ref b954), .val (.int (4 : Int32)), .val (.int (2 : Int32))] [(.int (3 : Int32))])) t → Steps p.tables e below G t := fun t k => K966 t (X960.iaload hx (j := (4 : Int32)) (v := (.int (3 : Int32))) (by rw [e960]; exact Ar967.1) (State.isArrayOf_alike hZ.alike Ar967.2.1) Ar967.2.2 hin967 hat967 (g := (mkF m 46 #[.val (.ref a1), .val (.int (4 : Int32)), .val (.int (3 : Int32)), .val (.ref b954), .val (.int (4 : Int32)), .val (.int (2 : Int32))] [(.int (4 : Int32)), (.ref a1)])) rfl rfl (hb hby d3_46) _ k)
              have K969 : ∀ t, Steps p.tables e below (T960.setTop (mkF m 42 #[.val (.ref a1), .val (.int (4 : Int32)), .val (.int (3 : Int32)), .val (.ref b954), .val (.int (3 : Int32)), .val (.int (1 : Int32))] [(.int (3 : Int32)), (.int (1 : Int32)), (.ref b954)])) t → Steps p.tables e below G t := by
                intro t k
                refine K968 t ?_
                show Steps p.tables e below (T960.setTop (mkF m 47 #[.val (.ref a1), .val (.int (4 : Int32)), .val (.int (3 : Int32)), .val (.ref b954), .val (.int (4 : Int32)), .val (.int (2 : Int32))] [(.int (3 : Int32))])) _
                refine XS.istore X960.here hx rfl (hb hby d3_47) rfl (l' := #[.val (.ref a1), .val (.int (4 : Int32)), .val (.int (3 : Int32)), .val (.ref b954), .val (.int (3 : Int32)), .val (.int (2 : Int32))]) rfl ?_
                refine XS.iinc X960.here hx rfl (hb hby d3_49) rfl (l' := #[.val (.ref a1), .val (.int (4 : Int32)), .val (.int (3 : Int32)), .val (.ref b954), .val (.int (3 : Int32)), .val (.int (1 : Int32))]) rfl ?_
                refine XS.goto X960.here hx rfl (pc0 := 52) (pc' := 32) rfl (hb hby d3_52) (by decide) (by decide) ?_
                refine XS.iload X960.here hx rfl (hb hby d3_32) rfl ?_
                show Steps p.tables e below (T960.setTop (mkF m 34 #[.val (.ref a1), .val (.int (4 : Int32)), .val (.int (3 : Int32)), .val (.ref b954), .val (.int (3 : Int32)), .val (.int (1 : Int32))] [(.int (1 : Int32))])) _
                refine XS.ifNo X960.here hx rfl (hb hby d3_34) rfl ((if0 _ _).trans (flt (by decide)).1) ?_
                refine XS.aloadN X960.here hx rfl (hb hby d3_37) rfl rfl ?_
                refine XS.iload X960.here hx rfl (hb hby d3_38) rfl ?_
                refine XS.iload X960.here hx rfl (hb hby d3_40) rfl ?_
                show Steps p.tables e below (T960.setTop (mkF m 42 #[.val (.ref a1), .val (.int (4 : Int32)), .val (.int (3 : Int32)), .val (.ref b954), .val (.int (3 : Int32)), .val (.int (1 : Int32))] [(.int (3 : Int32)), (.int (1 : Int32)), (.ref b954)])) _
                exact k
              obtain ⟨cl970, Ar970, qc970, S970, M970, Ha970, Ga970⟩ := id V960
              have hin970 : ¬ ((1 : Int32) < 0 ∨ cl970.slots.size ≤ ((1 : Int32)).toNatClampNeg) := inb_of S970 ⟨by decide, by decide⟩
              obtain ⟨T970, h970, X970, e970, W970, st970⟩ := stI X960 hx hZ e960 Ar970 (j := (1 : Int32)) hin970 (g := (mkF m 42 #[.val (.ref a1), .val (.int (4 : Int32)), .val (.int (3 : Int32)), .val (.ref b954), .val (.int (3 : Int32)), .val (.int (1 : Int32))] [(.int (3 : Int32)), (.int (1 : Int32)), (.ref b954)])) rfl rfl (hb hby d3_42)
              have V970 : Arv Z h970 b954 kn954 .int (3 : Int32) [(.int (0 : Int32)), (.int (3 : Int32)), (.int (4 : Int32))] (.int (0 : Int32)) := Arv.set Ar970 qc970 S970 M970 Ha970 Ga970 rfl W970 1 rfl (Nat.le_of_ble_eq_true rfl)
              have K971 : ∀ t, Steps p.tables e below (T970.setTop (mkF m 43 #[.val (.ref a1), .val (.int (4 : Int32)), .val (.int (3 : Int32)), .val (.ref b954), .val (.int (3 : Int32)), .val (.int (1 : Int32))] [])) t → Steps p.tables e below G t := fun t k => K969 t (st970 t k)
              have f972 := f962.other W970 ne_a1_b954
              have Z973 : n0 ≤ h970.size := Nat.le_trans Z963 (Keep.of_wr W970).1
              have KP974 : Keep h0 h970 [] := KP964.wr W970 (Or.inr sz_b954)
              have N975 := Fr.snoc X970 N965 g_b954
              have K976 : ∀ t, Steps p.tables e below (T970.setTop (mkF m 46 #[.val (.ref a1), .val (.int (4 : Int32)), .val (.int (3 : Int32)), .val (.ref b954), .val (.int (3 : Int32)), .val (.int (1 : Int32))] [(.int (3 : Int32)), (.ref a1)])) t → Steps p.tables e below G t := by
                intro t k
                refine K971 t ?_
                show Steps p.tables e below (T970.setTop (mkF m 43 #[.val (.ref a1), .val (.int (4 : Int32)), .val (.int (3 : Int32)), .val (.ref b954), .val (.int (3 : Int32)), .val (.int (1 : Int32))] [])) _
                refine XS.aloadN X970.here hx rfl (hb hby d3_43) rfl rfl ?_
                refine XS.iload X970.here hx rfl (hb hby d3_44) rfl ?_
                show Steps p.tables e below (T970.setTop (mkF m 46 #[.val (.ref a1), .val (.int (4 : Int32)), .val (.int (3 : Int32)), .val (.ref b954), .val (.int (3 : Int32)), .val (.int (1 : Int32))] [(.int (3 : Int32)), (.ref a1)])) _
                exact k
              obtain ⟨cl977, Ar977, qc977, S977, M977, Ha977, Ga977⟩ := id f972
              have hin977 : ¬ ((3 : Int32) < 0 ∨ cl977.slots.size ≤ ((3 : Int32)).toNatClampNeg) := inb_of S977 ⟨by decide, by decide⟩
              have hat977 : cl977.slots[((3 : Int32)).toNatClampNeg]? = some (.int (2 : Int32)) := Ha977.at hin977 rfl
              have K978 : ∀ t, Steps p.tables e below (T970.setTop (mkF m 47 #[.val (.ref a1), .val (.int (4 : Int32)), .val (.int (3 : Int32)), .val (.ref b954), .val (.int (3 : Int32)), .val (.int (1 : Int32))] [(.int (2 : Int32))])) t → Steps p.tables e below G t := fun t k => K976 t (X970.iaload hx (j := (3 : Int32)) (v := (.int (2 : Int32))) (by rw [e970]; exact Ar977.1) (State.isArrayOf_alike hZ.alike Ar977.2.1) Ar977.2.2 hin977 hat977 (g := (mkF m 46 #[.val (.ref a1), .val (.int (4 : Int32)), .val (.int (3 : Int32)), .val (.ref b954), .val (.int (3 : Int32)), .val (.int (1 : Int32))] [(.int (3 : Int32)), (.ref a1)])) rfl rfl (hb hby d3_46) _ k)
              have K979 : ∀ t, Steps p.tables e below (T970.setTop (mkF m 42 #[.val (.ref a1), .val (.int (4 : Int32)), .val (.int (3 : Int32)), .val (.ref b954), .val (.int (2 : Int32)), .val (.int (0 : Int32))] [(.int (2 : Int32)), (.int (0 : Int32)), (.ref b954)])) t → Steps p.tables e below G t := by
                intro t k
                refine K978 t ?_
                show Steps p.tables e below (T970.setTop (mkF m 47 #[.val (.ref a1), .val (.int (4 : Int32)), .val (.int (3 : Int32)), .val (.ref b954), .val (.int (3 : Int32)), .val (.int (1 : Int32))] [(.int (2 : Int32))])) _
                refine XS.istore X970.here hx rfl (hb hby d3_47) rfl (l' := #[.val (.ref a1), .val (.int (4 : Int32)), .val (.int (3 : Int32)), .val (.ref b954), .val (.int (2 : Int32)), .val (.int (1 : Int32))]) rfl ?_
                refine XS.iinc X970.here hx rfl (hb hby d3_49) rfl (l' := #[.val (.ref a1), .val (.int (4 : Int32)), .val (.int (3 : Int32)), .val (.ref b954), .val (.int (2 : Int32)), .val (.int (0 : Int32))]) rfl ?_
                refine XS.goto X970.here hx rfl (pc0 := 52) (pc' := 32) rfl (hb hby d3_52) (by decide) (by decide) ?_
                refine XS.iload X970.here hx rfl (hb hby d3_32) rfl ?_
                show Steps p.tables e below (T970.setTop (mkF m 34 #[.val (.ref a1), .val (.int (4 : Int32)), .val (.int (3 : Int32)), .val (.ref b954), .val (.int (2 : Int32)), .val (.int (0 : Int32))] [(.int (0 : Int32))])) _
                refine XS.ifNo X970.here hx rfl (hb hby d3_34) rfl ((if0 _ _).trans (flt (by decide)).1) ?_
                refine XS.aloadN X970.here hx rfl (hb hby d3_37) rfl rfl ?_
                refine XS.iload X970.here hx rfl (hb hby d3_38) rfl ?_
                refine XS.iload X970.here hx rfl (hb hby d3_40) rfl ?_
                show Steps p.tables e below (T970.setTop (mkF m 42 #[.val (.ref a1), .val (.int (4 : Int32)), .val (.int (3 : Int32)), .val (.ref b954), .val (.int (2 : Int32)), .val (.int (0 : Int32))] [(.int (2 : Int32)), (.int (0 : Int32)), (.ref b954)])) _
                exact k
              obtain ⟨cl980, Ar980, qc980, S980, M980, Ha980, Ga980⟩ := id V970
              have hin980 : ¬ ((0 : Int32) < 0 ∨ cl980.slots.size ≤ ((0 : Int32)).toNatClampNeg) := inb_of S980 ⟨by decide, by decide⟩
              obtain ⟨T980, h980, X980, e980, W980, st980⟩ := stI X970 hx hZ e970 Ar980 (j := (0 : Int32)) hin980 (g := (mkF m 42 #[.val (.ref a1), .val (.int (4 : Int32)), .val (.int (3 : Int32)), .val (.ref b954), .val (.int (2 : Int32)), .val (.int (0 : Int32))] [(.int (2 : Int32)), (.int (0 : Int32)), (.ref b954)])) rfl rfl (hb hby d3_42)
              have V980 : Arv Z h980 b954 kn954 .int (3 : Int32) [(.int (2 : Int32)), (.int (3 : Int32)), (.int (4 : Int32))] (.int (0 : Int32)) := Arv.set Ar980 qc980 S980 M980 Ha980 Ga980 rfl W980 0 rfl (Nat.le_of_ble_eq_true rfl)
              have K981 : ∀ t, Steps p.tables e below (T980.setTop (mkF m 43 #[.val (.ref a1), .val (.int (4 : Int32)), .val (.int (3 : Int32)), .val (.ref b954), .val (.int (2 : Int32)), .val (.int (0 : Int32))] [])) t → Steps p.tables e below G t := fun t k => K979 t (st980 t k)
              have f982 := f972.other W980 ne_a1_b954
              have Z983 : n0 ≤ h980.size := Nat.le_trans Z973 (Keep.of_wr W980).1
              have KP984 : Keep h0 h980 [] := KP974.wr W980 (Or.inr sz_b954)
              have N985 := Fr.snoc X980 N975 g_b954
              have K986 : ∀ t, Steps p.tables e below (T980.setTop (mkF m 46 #[.val (.ref a1), .val (.int (4 : Int32)), .val (.int (3 : Int32)), .val (.ref b954), .val (.int (2 : Int32)), .val (.int (0 : Int32))] [(.int (2 : Int32)), (.ref a1)])) t → Steps p.tables e below G t := by
                intro t k
                refine K981 t ?_
                show Steps p.tables e below (T980.setTop (mkF m 43 #[.val (.ref a1), .val (.int (4 : Int32)), .val (.int (3 : Int32)), .val (.ref b954), .val (.int (2 : Int32)), .val (.int (0 : Int32))] [])) _
                refine XS.aloadN X980.here hx rfl (hb hby d3_43) rfl rfl ?_
                refine XS.iload X980.here hx rfl (hb hby d3_44) rfl ?_
                show Steps p.tables e below (T980.setTop (mkF m 46 #[.val (.ref a1), .val (.int (4 : Int32)), .val (.int (3 : Int32)), .val (.ref b954), .val (.int (2 : Int32)), .val (.int (0 : Int32))] [(.int (2 : Int32)), (.ref a1)])) _
                exact k
              obtain ⟨cl987, Ar987, qc987, S987, M987, Ha987, Ga987⟩ := id f982
              have hin987 : ¬ ((2 : Int32) < 0 ∨ cl987.slots.size ≤ ((2 : Int32)).toNatClampNeg) := inb_of S987 ⟨by decide, by decide⟩
              have hat987 : cl987.slots[((2 : Int32)).toNatClampNeg]? = some (.int q2) := Ha987.at hin987 rfl
              have K988 : ∀ t, Steps p.tables e below (T980.setTop (mkF m 47 #[.val (.ref a1), .val (.int (4 : Int32)), .val (.int (3 : Int32)), .val (.ref b954), .val (.int (2 : Int32)), .val (.int (0 : Int32))] [(.int q2)])) t → Steps p.tables e below G t := fun t k => K986 t (X980.iaload hx (j := (2 : Int32)) (v := (.int q2)) (by rw [e980]; exact Ar987.1) (State.isArrayOf_alike hZ.alike Ar987.2.1) Ar987.2.2 hin987 hat987 (g := (mkF m 46 #[.val (.ref a1), .val (.int (4 : Int32)), .val (.int (3 : Int32)), .val (.ref b954), .val (.int (2 : Int32)), .val (.int (0 : Int32))] [(.int (2 : Int32)), (.ref a1)])) rfl rfl (hb hby d3_46) _ k)
              obtain ⟨fs, hr, hrun, hended, hW, hsame⟩ := X980.leave (v := some (.ref b954)) (fun h => by rw [Bd.returns] at h; cases h)
              have KF := K988
              rw [hG] at KF
              refine ⟨_, _, KF _ ?_, hrun, hended, _, _, rfl, ?_, ⟨_, rfl⟩, hW, hsame.mono (by decide) (by decide)⟩
              · show Steps p.tables e below (T980.setTop (mkF m 47 #[.val (.ref a1), .val (.int (4 : Int32)), .val (.int (3 : Int32)), .val (.ref b954), .val (.int (2 : Int32)), .val (.int (0 : Int32))] [(.int q2)])) _
                refine XS.istore X980.here hx rfl (hb hby d3_47) rfl (l' := #[.val (.ref a1), .val (.int (4 : Int32)), .val (.int (3 : Int32)), .val (.ref b954), .val (.int q2), .val (.int (0 : Int32))]) rfl ?_
                refine XS.iinc X980.here hx rfl (hb hby d3_49) rfl (l' := #[.val (.ref a1), .val (.int (4 : Int32)), .val (.int (3 : Int32)), .val (.ref b954), .val (.int q2), .val (.int (-1 : Int32))]) rfl ?_
                refine XS.goto X980.here hx rfl (pc0 := 52) (pc' := 32) rfl (hb hby d3_52) (by decide) (by decide) ?_
                refine XS.iload X980.here hx rfl (hb hby d3_32) rfl ?_
                show Steps p.tables e below (T980.setTop (mkF m 34 #[.val (.ref a1), .val (.int (4 : Int32)), .val (.int (3 : Int32)), .val (.ref b954), .val (.int q2), .val (.int (-1 : Int32))] [(.int (-1 : Int32))])) _
                refine XS.ifYes X980.here hx rfl (pc0 := 34) (pc' := 55) rfl (hb hby d3_34) rfl ((if0 _ _).trans (tlt (by decide)).1) (by decide) (by decide) ?_
                refine XS.aloadN X980.here hx rfl (hb hby d3_55) rfl rfl ?_
                show Steps p.tables e below (T980.setTop (mkF m 56 #[.val (.ref a1), .val (.int (4 : Int32)), .val (.int (3 : Int32)), .val (.ref b954), .val (.int q2), .val (.int (-1 : Int32))] [(.ref b954)])) _
                exact own_retA X980 hx Bd.returns rfl rfl rfl (hb hby d3_56) hr
              · show Q3 Z (4 : Int32) [(.int q0), (.int q1), (.int q2), (.int (2 : Int32)), (.int (3 : Int32))] h0 n0 _ T980.heap _
                rw [e980]
                exact ⟨_, _, _, _, rfl, N985, KP984, sz_b954, V980, ⟨by decide, by decide⟩, ⟨by decide, by decide⟩, rfl, Or.inr ⟨2, q2, 0, by decide, rfl, ⟨by decide, by decide⟩, rfl, Or.inl ⟨rfl, hc952⟩⟩, Or.inr ⟨3, 2, 2, by decide, rfl, ⟨by decide, by decide⟩, rfl, Or.inr ⟨by decide, ⟨by decide, by decide⟩, rfl, rfl⟩⟩, Or.inr ⟨4, 3, 3, by decide, rfl, ⟨by decide, by decide⟩, rfl, Or.inr ⟨by decide, ⟨by decide, by decide⟩, rfl, rfl⟩⟩, Or.inl (by decide), Or.inl (by decide)⟩
            · have K989 : ∀ t, Steps p.tables e below (s₁.setTop (mkF m 15 #[.val (.ref a1), .val (.int (4 : Int32)), .val (.int (4 : Int32)), .val (.int (2 : Int32)), .unset, .unset] [(.int (2 : Int32)), (.ref a1)])) t → Steps p.tables e below G t := by
                intro t k
                refine K951 t ?_
                show Steps p.tables e below (s₁.setTop (mkF m 7 #[.val (.ref a1), .val (.int (4 : Int32)), .val (.int (3 : Int32)), .val (.int (2 : Int32)), .unset, .unset] [(.int q2)])) _
                refine XS.ifNo X0.here hx rfl (hb hby d3_7) rfl ((if0 _ _).trans (flt hc952).1) ?_
                refine XS.iinc X0.here hx rfl (hb hby d3_10) rfl (l' := #[.val (.ref a1), .val (.int (4 : Int32)), .val (.int (4 : Int32)), .val (.int (2 : Int32)), .unset, .unset]) rfl ?_
                refine XS.aloadN X0.here hx rfl (hb hby d3_13) rfl rfl ?_
                refine XS.iloadN X0.here hx rfl (hb hby d3_14) rfl ?_
                show Steps p.tables e below (s₁.setTop (mkF m 15 #[.val (.ref a1), .val (.int (4 : Int32)), .val (.int (4 : Int32)), .val (.int (2 : Int32)), .unset, .unset] [(.int (2 : Int32)), (.ref a1)])) _
                exact k
              obtain ⟨cl990, Ar990, qc990, S990, M990, Ha990, Ga990⟩ := id V1
              have hin990 : ¬ ((2 : Int32) < 0 ∨ cl990.slots.size ≤ ((2 : Int32)).toNatClampNeg) := inb_of S990 ⟨by decide, by decide⟩
              have hat990 : cl990.slots[((2 : Int32)).toNatClampNeg]? = some (.int q2) := Ha990.at hin990 rfl
              have K991 : ∀ t, Steps p.tables e below (s₁.setTop (mkF m 16 #[.val (.ref a1), .val (.int (4 : Int32)), .val (.int (4 : Int32)), .val (.int (2 : Int32)), .unset, .unset] [(.int q2)])) t → Steps p.tables e below G t := fun t k => K989 t (X0.iaload hx (j := (2 : Int32)) (v := (.int q2)) (by rw [e0]; exact Ar990.1) (State.isArrayOf_alike hZ.alike Ar990.2.1) Ar990.2.2 hin990 hat990 (g := (mkF m 15 #[.val (.ref a1), .val (.int (4 : Int32)), .val (.int (4 : Int32)), .val (.int (2 : Int32)), .unset, .unset] [(.int (2 : Int32)), (.ref a1)])) rfl rfl (hb hby d3_15) _ k)
              have K992 : ∀ t, Steps p.tables e below (s₁.setTop (mkF m 4 #[.val (.ref a1), .val (.int (4 : Int32)), .val (.int (4 : Int32)), .val (.int q2), .unset, .unset] [])) t → Steps p.tables e below G t := by
                intro t k
                refine K991 t ?_
                show Steps p.tables e below (s₁.setTop (mkF m 16 #[.val (.ref a1), .val (.int (4 : Int32)), .val (.int (4 : Int32)), .val (.int (2 : Int32)), .unset, .unset] [(.int q2)])) _
                refine XS.istoreN X0.here hx rfl (hb hby d3_16) rfl (l' := #[.val (.ref a1), .val (.int (4 : Int32)), .val (.int (4 : Int32)), .val (.int q2), .unset, .unset]) rfl ?_
                refine XS.goto X0.here hx rfl (pc0 := 17) (pc' := 4) rfl (hb hby d3_17) (by decide) (by decide) ?_
                show Steps p.tables e below (s₁.setTop (mkF m 4 #[.val (.ref a1), .val (.int (4 : Int32)), .val (.int (4 : Int32)), .val (.int q2), .unset, .unset] [])) _
                exact k
              rcases own_lt2 hc952 hq2 with rfl | rfl
              · have K993 : ∀ t, Steps p.tables e below (s₁.setTop (mkF m 6 #[.val (.ref a1), .val (.int (4 : Int32)), .val (.int (4 : Int32)), .val (.int (0 : Int32)), .unset, .unset] [(.int (0 : Int32)), (.ref a1)])) t → Steps p.tables e below G t := by
                  intro t k
                  refine K992 t ?_
                  show Steps p.tables e below (s₁.setTop (mkF m 4 #[.val (.ref a1), .val (.int (4 : Int32)), .val (.int (4 : Int32)), .val (.int (0 : Int32)), .unset, .unset] [])) _
                  refine XS.aloadN X0.here hx rfl (hb hby d3_4) rfl rfl ?_
                  refine XS.iloadN X0.here hx rfl (hb hby d3_5) rfl ?_
                  show Steps p.tables e below (s₁.setTop (mkF m 6 #[.val (.ref a1), .val (.int (4 : Int32)), .val (.int (4 : Int32)), .val (.int (0 : Int32)), .unset, .unset] [(.int (0 : Int32)), (.ref a1)])) _
                  exact k
                obtain ⟨cl994, Ar994, qc994, S994, M994, Ha994, Ga994⟩ := id V1
                have hin994 : ¬ ((0 : Int32) < 0 ∨ cl994.slots.size ≤ ((0 : Int32)).toNatClampNeg) := inb_of S994 ⟨by decide, by decide⟩
                have hat994 : cl994.slots[((0 : Int32)).toNatClampNeg]? = some (.int q0) := Ha994.at hin994 rfl
                have K995 : ∀ t, Steps p.tables e below (s₁.setTop (mkF m 7 #[.val (.ref a1), .val (.int (4 : Int32)), .val (.int (4 : Int32)), .val (.int (0 : Int32)), .unset, .unset] [(.int q0)])) t → Steps p.tables e below G t := fun t k => K993 t (X0.iaload hx (j := (0 : Int32)) (v := (.int q0)) (by rw [e0]; exact Ar994.1) (State.isArrayOf_alike hZ.alike Ar994.2.1) Ar994.2.2 hin994 hat994 (g := (mkF m 6 #[.val (.ref a1), .val (.int (4 : Int32)), .val (.int (4 : Int32)), .val (.int (0 : Int32)), .unset, .unset] [(.int (0 : Int32)), (.ref a1)])) rfl rfl (hb hby d3_6) _ k)
                have K996 : ∀ t, Steps p.tables e below (s₁.setTop (mkF m 21 #[.val (.ref a1), .val (.int (4 : Int32)), .val (.int (4 : Int32)), .val (.int (0 : Int32)), .unset, .unset] [(.int (4 : Int32))])) t → Steps p.tables e below G t := by
                  intro t k
                  refine K995 t ?_
                  show Steps p.tables e below (s₁.setTop (mkF m 7 #[.val (.ref a1), .val (.int (4 : Int32)), .val (.int (4 : Int32)), .val (.int (0 : Int32)), .unset, .unset] [(.int q0)])) _
                  refine XS.ifYes X0.here hx rfl (pc0 := 7) (pc' := 20) rfl (hb hby d3_7) rfl ((if0 _ _).trans (tlt hq0).1) (by decide) (by decide) ?_
                  refine XS.iloadN X0.here hx rfl (hb hby d3_20) rfl ?_
                  show Steps p.tables e below (s₁.setTop (mkF m 21 #[.val (.ref a1), .val (.int (4 : Int32)), .val (.int (4 : Int32)), .val (.int (0 : Int32)), .unset, .unset] [(.int (4 : Int32))])) _
                  exact k
                obtain ⟨T997, h997, kn997, X997, e997, E997, A997, st997⟩ := newP X0 hx hZ (hw _ (List.mem_of_getElem? (i := 8) rfl)) e0 (g := (mkF m 21 #[.val (.ref a1), .val (.int (4 : Int32)), .val (.int (4 : Int32)), .val (.int (0 : Int32)), .unset, .unset] [(.int (4 : Int32))])) rfl (hb hby d3_21) rfl (by decide) (cap := 4) (by decide) (by decide) (by decide) (by decide)
                obtain ⟨b997, g997⟩ : ∃ z, z = h0.size := ⟨_, rfl⟩
                rw [← g997] at A997 st997
                have ne_a1_b997 : a1 ≠ b997 := Nat.ne_of_lt (Nat.lt_of_lt_of_le V1.lt (Nat.le_of_eq g997.symm))
                have g_b997 : n0 ≤ b997 := Nat.le_trans Z0 (Nat.le_of_eq g997.symm)
                have sz_b997 : h0.size ≤ b997 := Nat.le_trans KP0.1 (Nat.le_of_eq g997.symm)
                have f998 := V1.ext E997
                have Z999 : n0 ≤ h997.size := Nat.le_trans Z0 E997.1
                have KP1000 : Keep h0 h997 [] := KP0.ext E997
                have K1001 : ∀ t, Steps p.tables e below (T997.setTop (mkF m 23 #[.val (.ref a1), .val (.int (4 : Int32)), .val (.int (4 : Int32)), .val (.int (0 : Int32)), .unset, .unset] [(.ref b997)])) t → Steps p.tables e below G t := fun t k => K996 t (st997 t k)
                have V997 : Arv Z h997 b997 kn997 .int (4 : Int32) [(.int (0 : Int32)), (.int (0 : Int32)), (.int (0 : Int32)), (.int (0 : Int32))] (.int (0 : Int32)) := (Arv.new A997 (by decide)).pad (pad_rep [] (.int (0 : Int32)) 4)
                have K1002 : ∀ t, Steps p.tables e below (T997.setTop (mkF m 42 #[.val (.ref a1), .val (.int (4 : Int32)), .val (.int (4 : Int32)), .val (.ref b997), .val (.int (4 : Int32)), .val (.int (3 : Int32))] [(.int (4 : Int32)), (.int (3 : Int32)), (.ref b997)])) t → Steps p.tables e below G t := by
                  intro t k
                  refine K1001 t ?_
                  show Steps p.tables e below (T997.setTop (mkF m 23 #[.val (.ref a1), .val (.int (4 : Int32)), .val (.int (4 : Int32)), .val (.int (0 : Int32)), .unset, .unset] [(.ref b997)])) _
                  refine XS.astoreN X997.here hx rfl (hb hby d3_23) rfl rfl (l' := #[.val (.ref a1), .val (.int (4 : Int32)), .val (.int (4 : Int32)), .val (.ref b997), .unset, .unset]) rfl ?_
                  refine XS.iloadN X997.here hx rfl (hb hby d3_24) rfl ?_
                  refine XS.istore X997.here hx rfl (hb hby d3_25) rfl (l' := #[.val (.ref a1), .val (.int (4 : Int32)), .val (.int (4 : Int32)), .val (.ref b997), .val (.int (4 : Int32)), .unset]) rfl ?_
                  refine XS.iloadN X997.here hx rfl (hb hby d3_27) rfl ?_
                  show Steps p.tables e below (T997.setTop (mkF m 28 #[.val (.ref a1), .val (.int (4 : Int32)), .val (.int (4 : Int32)), .val (.ref b997), .val (.int (4 : Int32)), .unset] [(.int (4 : Int32))])) _
                  refine XS.iconst X997.here hx rfl (hb hby d3_28) ?_
                  refine XS.isub X997.here hx rfl (hb hby d3_29) rfl ?_
                  refine XS.istore X997.here hx rfl (hb hby d3_30) rfl (l' := #[.val (.ref a1), .val (.int (4 : Int32)), .val (.int (4 : Int32)), .val (.ref b997), .val (.int (4 : Int32)), .val (.int (3 : Int32))]) rfl ?_
                  refine XS.iload X997.here hx rfl (hb hby d3_32) rfl ?_
                  show Steps p.tables e below (T997.setTop (mkF m 34 #[.val (.ref a1), .val (.int (4 : Int32)), .val (.int (4 : Int32)), .val (.ref b997), .val (.int (4 : Int32)), .val (.int (3 : Int32))] [(.int (3 : Int32))])) _
                  refine XS.ifNo X997.here hx rfl (hb hby d3_34) rfl ((if0 _ _).trans (flt (by decide)).1) ?_
                  refine XS.aloadN X997.here hx rfl (hb hby d3_37) rfl rfl ?_
                  refine XS.iload X997.here hx rfl (hb hby d3_38) rfl ?_
                  refine XS.iload X997.here hx rfl (hb hby d3_40) rfl ?_
                  show Steps p.tables e below (T997.setTop (mkF m 42 #[.val (.ref a1), .val (.int (4 : Int32)), .val (.int (4 : Int32)), .val (.ref b997), .val (.int (4 : Int32)), .val (.int (3 : Int32))] [(.int (4 : Int32)), (.int (3 : Int32)), (.ref b997)])) _
                  exact k
                obtain ⟨cl1003, Ar1003, qc1003, S1003, M1003, Ha1003, Ga1003⟩ := id V997
                have hin1003 : ¬ ((3 : Int32) < 0 ∨ cl1003.slots.size ≤ ((3 : Int32)).toNatClampNeg) := inb_of S1003 ⟨by decide, by decide⟩
                obtain ⟨T1003, h1003, X1003, e1003, W1003, st1003⟩ := stI X997 hx hZ e997 Ar1003 (j := (3 : Int32)) hin1003 (g := (mkF m 42 #[.val (.ref a1), .val (.int (4 : Int32)), .val (.int (4 : Int32)), .val (.ref b997), .val (.int (4 : Int32)), .val (.int (3 : Int32))] [(.int (4 : Int32)), (.int (3 : Int32)), (.ref b997)])) rfl rfl (hb hby d3_42)
                have V1003 : Arv Z h1003 b997 kn997 .int (4 : Int32) [(.int (0 : Int32)), (.int (0 : Int32)), (.int (0 : Int32)), (.int (4 : Int32))] (.int (0 : Int32)) := Arv.set Ar1003 qc1003 S1003 M1003 Ha1003 Ga1003 rfl W1003 3 rfl (Nat.le_of_ble_eq_true rfl)
                have K1004 : ∀ t, Steps p.tables e below (T1003.setTop (mkF m 43 #[.val (.ref a1), .val (.int (4 : Int32)), .val (.int (4 : Int32)), .val (.ref b997), .val (.int (4 : Int32)), .val (.int (3 : Int32))] [])) t → Steps p.tables e below G t := fun t k => K1002 t (st1003 t k)
                have f1005 := f998.other W1003 ne_a1_b997
                have Z1006 : n0 ≤ h1003.size := Nat.le_trans Z999 (Keep.of_wr W1003).1
                have KP1007 : Keep h0 h1003 [] := KP1000.wr W1003 (Or.inr sz_b997)
                have N1008 := Fr.snoc X1003 N0 g_b997
                have K1009 : ∀ t, Steps p.tables e below (T1003.setTop (mkF m 46 #[.val (.ref a1), .val (.int (4 : Int32)), .val (.int (4 : Int32)), .val (.ref b997), .val (.int (4 : Int32)), .val (.int (3 : Int32))] [(.int (4 : Int32)), (.ref a1)])) t → Steps p.tables e below G t := by
                  intro t k
                  refine K1004 t ?_
                  show Steps p.tables e below (T1003.setTop (mkF m 43 #[.val (.ref a1), .val (.int (4 : Int32)), .val (.int (4 : Int32)), .val (.ref b997), .val (.int (4 : Int32)), .val (.int (3 : Int32))] [])) _
                  refine XS.aloadN X1003.here hx rfl (hb hby d3_43) rfl rfl ?_
                  refine XS.iload X1003.here hx rfl (hb hby d3_44) rfl ?_
                  show Steps p.tables e below (T1003.setTop (mkF m 46 #[.val (.ref a1), .val (.int (4 : Int32)), .val (.int (4 : Int32)), .val (.ref b997), .val (.int (4 : Int32)), .val (.int (3 : Int32))] [(.int (4 : Int32)), (.ref a1)])) _
                  exact k
                obtain ⟨cl1010, Ar1010, qc1010, S1010, M1010, Ha1010, Ga1010⟩ := id f1005
                have hin1010 : ¬ ((4 : Int32) < 0 ∨ cl1010.slots.size ≤ ((4 : Int32)).toNatClampNeg) := inb_of S1010 ⟨by decide, by decide⟩
                have hat1010 : cl1010.slots[((4 : Int32)).toNatClampNeg]? = some (.int (3 : Int32)) := Ha1010.at hin1010 rfl
                have K1011 : ∀ t, Steps p.tables e below (T1003.setTop (mkF m 47 #[.val (.ref a1), .val (.int (4 : Int32)), .val (.int (4 : Int32)), .val (.ref b997), .val (.int (4 : Int32)), .val (.int (3 : Int32))] [(.int (3 : Int32))])) t → Steps p.tables e below G t := fun t k => K1009 t (X1003.iaload hx (j := (4 : Int32)) (v := (.int (3 : Int32))) (by rw [e1003]; exact Ar1010.1) (State.isArrayOf_alike hZ.alike Ar1010.2.1) Ar1010.2.2 hin1010 hat1010 (g := (mkF m 46 #[.val (.ref a1), .val (.int (4 : Int32)), .val (.int (4 : Int32)), .val (.ref b997), .val (.int (4 : Int32)), .val (.int (3 : Int32))] [(.int (4 : Int32)), (.ref a1)])) rfl rfl (hb hby d3_46) _ k)
                have K1012 : ∀ t, Steps p.tables e below (T1003.setTop (mkF m 42 #[.val (.ref a1), .val (.int (4 : Int32)), .val (.int (4 : Int32)), .val (.ref b997), .val (.int (3 : Int32)), .val (.int (2 : Int32))] [(.int (3 : Int32)), (.int (2 : Int32)), (.ref b997)])) t → Steps p.tables e below G t := by
                  intro t k
                  refine K1011 t ?_
                  show Steps p.tables e below (T1003.setTop (mkF m 47 #[.val (.ref a1), .val (.int (4 : Int32)), .val (.int (4 : Int32)), .val (.ref b997), .val (.int (4 : Int32)), .val (.int (3 : Int32))] [(.int (3 : Int32))])) _
                  refine XS.istore X1003.here hx rfl (hb hby d3_47) rfl (l' := #[.val (.ref a1), .val (.int (4 : Int32)), .val (.int (4 : Int32)), .val (.ref b997), .val (.int (3 : Int32)), .val (.int (3 : Int32))]) rfl ?_
                  refine XS.iinc X1003.here hx rfl (hb hby d3_49) rfl (l' := #[.val (.ref a1), .val (.int (4 : Int32)), .val (.int (4 : Int32)), .val (.ref b997), .val (.int (3 : Int32)), .val (.int (2 : Int32))]) rfl ?_
                  refine XS.goto X1003.here hx rfl (pc0 := 52) (pc' := 32) rfl (hb hby d3_52) (by decide) (by decide) ?_
                  refine XS.iload X1003.here hx rfl (hb hby d3_32) rfl ?_
                  show Steps p.tables e below (T1003.setTop (mkF m 34 #[.val (.ref a1), .val (.int (4 : Int32)), .val (.int (4 : Int32)), .val (.ref b997), .val (.int (3 : Int32)), .val (.int (2 : Int32))] [(.int (2 : Int32))])) _
                  refine XS.ifNo X1003.here hx rfl (hb hby d3_34) rfl ((if0 _ _).trans (flt (by decide)).1) ?_
                  refine XS.aloadN X1003.here hx rfl (hb hby d3_37) rfl rfl ?_
                  refine XS.iload X1003.here hx rfl (hb hby d3_38) rfl ?_
                  refine XS.iload X1003.here hx rfl (hb hby d3_40) rfl ?_
                  show Steps p.tables e below (T1003.setTop (mkF m 42 #[.val (.ref a1), .val (.int (4 : Int32)), .val (.int (4 : Int32)), .val (.ref b997), .val (.int (3 : Int32)), .val (.int (2 : Int32))] [(.int (3 : Int32)), (.int (2 : Int32)), (.ref b997)])) _
                  exact k
                obtain ⟨cl1013, Ar1013, qc1013, S1013, M1013, Ha1013, Ga1013⟩ := id V1003
                have hin1013 : ¬ ((2 : Int32) < 0 ∨ cl1013.slots.size ≤ ((2 : Int32)).toNatClampNeg) := inb_of S1013 ⟨by decide, by decide⟩
                obtain ⟨T1013, h1013, X1013, e1013, W1013, st1013⟩ := stI X1003 hx hZ e1003 Ar1013 (j := (2 : Int32)) hin1013 (g := (mkF m 42 #[.val (.ref a1), .val (.int (4 : Int32)), .val (.int (4 : Int32)), .val (.ref b997), .val (.int (3 : Int32)), .val (.int (2 : Int32))] [(.int (3 : Int32)), (.int (2 : Int32)), (.ref b997)])) rfl rfl (hb hby d3_42)
                have V1013 : Arv Z h1013 b997 kn997 .int (4 : Int32) [(.int (0 : Int32)), (.int (0 : Int32)), (.int (3 : Int32)), (.int (4 : Int32))] (.int (0 : Int32)) := Arv.set Ar1013 qc1013 S1013 M1013 Ha1013 Ga1013 rfl W1013 2 rfl (Nat.le_of_ble_eq_true rfl)
                have K1014 : ∀ t, Steps p.tables e below (T1013.setTop (mkF m 43 #[.val (.ref a1), .val (.int (4 : Int32)), .val (.int (4 : Int32)), .val (.ref b997), .val (.int (3 : Int32)), .val (.int (2 : Int32))] [])) t → Steps p.tables e below G t := fun t k => K1012 t (st1013 t k)
                have f1015 := f1005.other W1013 ne_a1_b997
                have Z1016 : n0 ≤ h1013.size := Nat.le_trans Z1006 (Keep.of_wr W1013).1
                have KP1017 : Keep h0 h1013 [] := KP1007.wr W1013 (Or.inr sz_b997)
                have N1018 := Fr.snoc X1013 N1008 g_b997
                have K1019 : ∀ t, Steps p.tables e below (T1013.setTop (mkF m 46 #[.val (.ref a1), .val (.int (4 : Int32)), .val (.int (4 : Int32)), .val (.ref b997), .val (.int (3 : Int32)), .val (.int (2 : Int32))] [(.int (3 : Int32)), (.ref a1)])) t → Steps p.tables e below G t := by
                  intro t k
                  refine K1014 t ?_
                  show Steps p.tables e below (T1013.setTop (mkF m 43 #[.val (.ref a1), .val (.int (4 : Int32)), .val (.int (4 : Int32)), .val (.ref b997), .val (.int (3 : Int32)), .val (.int (2 : Int32))] [])) _
                  refine XS.aloadN X1013.here hx rfl (hb hby d3_43) rfl rfl ?_
                  refine XS.iload X1013.here hx rfl (hb hby d3_44) rfl ?_
                  show Steps p.tables e below (T1013.setTop (mkF m 46 #[.val (.ref a1), .val (.int (4 : Int32)), .val (.int (4 : Int32)), .val (.ref b997), .val (.int (3 : Int32)), .val (.int (2 : Int32))] [(.int (3 : Int32)), (.ref a1)])) _
                  exact k
                obtain ⟨cl1020, Ar1020, qc1020, S1020, M1020, Ha1020, Ga1020⟩ := id f1015
                have hin1020 : ¬ ((3 : Int32) < 0 ∨ cl1020.slots.size ≤ ((3 : Int32)).toNatClampNeg) := inb_of S1020 ⟨by decide, by decide⟩
                have hat1020 : cl1020.slots[((3 : Int32)).toNatClampNeg]? = some (.int (2 : Int32)) := Ha1020.at hin1020 rfl
                have K1021 : ∀ t, Steps p.tables e below (T1013.setTop (mkF m 47 #[.val (.ref a1), .val (.int (4 : Int32)), .val (.int (4 : Int32)), .val (.ref b997), .val (.int (3 : Int32)), .val (.int (2 : Int32))] [(.int (2 : Int32))])) t → Steps p.tables e below G t := fun t k => K1019 t (X1013.iaload hx (j := (3 : Int32)) (v := (.int (2 : Int32))) (by rw [e1013]; exact Ar1020.1) (State.isArrayOf_alike hZ.alike Ar1020.2.1) Ar1020.2.2 hin1020 hat1020 (g := (mkF m 46 #[.val (.ref a1), .val (.int (4 : Int32)), .val (.int (4 : Int32)), .val (.ref b997), .val (.int (3 : Int32)), .val (.int (2 : Int32))] [(.int (3 : Int32)), (.ref a1)])) rfl rfl (hb hby d3_46) _ k)
                have K1022 : ∀ t, Steps p.tables e below (T1013.setTop (mkF m 42 #[.val (.ref a1), .val (.int (4 : Int32)), .val (.int (4 : Int32)), .val (.ref b997), .val (.int (2 : Int32)), .val (.int (1 : Int32))] [(.int (2 : Int32)), (.int (1 : Int32)), (.ref b997)])) t → Steps p.tables e below G t := by
                  intro t k
                  refine K1021 t ?_
                  show Steps p.tables e below (T1013.setTop (mkF m 47 #[.val (.ref a1), .val (.int (4 : Int32)), .val (.int (4 : Int32)), .val (.ref b997), .val (.int (3 : Int32)), .val (.int (2 : Int32))] [(.int (2 : Int32))])) _
                  refine XS.istore X1013.here hx rfl (hb hby d3_47) rfl (l' := #[.val (.ref a1), .val (.int (4 : Int32)), .val (.int (4 : Int32)), .val (.ref b997), .val (.int (2 : Int32)), .val (.int (2 : Int32))]) rfl ?_
                  refine XS.iinc X1013.here hx rfl (hb hby d3_49) rfl (l' := #[.val (.ref a1), .val (.int (4 : Int32)), .val (.int (4 : Int32)), .val (.ref b997), .val (.int (2 : Int32)), .val (.int (1 : Int32))]) rfl ?_
                  refine XS.goto X1013.here hx rfl (pc0 := 52) (pc' := 32) rfl (hb hby d3_52) (by decide) (by decide) ?_
                  refine XS.iload X1013.here hx rfl (hb hby d3_32) rfl ?_
                  show Steps p.tables e below (T1013.setTop (mkF m 34 #[.val (.ref a1), .val (.int (4 : Int32)), .val (.int (4 : Int32)), .val (.ref b997), .val (.int (2 : Int32)), .val (.int (1 : Int32))] [(.int (1 : Int32))])) _
                  refine XS.ifNo X1013.here hx rfl (hb hby d3_34) rfl ((if0 _ _).trans (flt (by decide)).1) ?_
                  refine XS.aloadN X1013.here hx rfl (hb hby d3_37) rfl rfl ?_
                  refine XS.iload X1013.here hx rfl (hb hby d3_38) rfl ?_
                  refine XS.iload X1013.here hx rfl (hb hby d3_40) rfl ?_
                  show Steps p.tables e below (T1013.setTop (mkF m 42 #[.val (.ref a1), .val (.int (4 : Int32)), .val (.int (4 : Int32)), .val (.ref b997), .val (.int (2 : Int32)), .val (.int (1 : Int32))] [(.int (2 : Int32)), (.int (1 : Int32)), (.ref b997)])) _
                  exact k
                obtain ⟨cl1023, Ar1023, qc1023, S1023, M1023, Ha1023, Ga1023⟩ := id V1013
                have hin1023 : ¬ ((1 : Int32) < 0 ∨ cl1023.slots.size ≤ ((1 : Int32)).toNatClampNeg) := inb_of S1023 ⟨by decide, by decide⟩
                obtain ⟨T1023, h1023, X1023, e1023, W1023, st1023⟩ := stI X1013 hx hZ e1013 Ar1023 (j := (1 : Int32)) hin1023 (g := (mkF m 42 #[.val (.ref a1), .val (.int (4 : Int32)), .val (.int (4 : Int32)), .val (.ref b997), .val (.int (2 : Int32)), .val (.int (1 : Int32))] [(.int (2 : Int32)), (.int (1 : Int32)), (.ref b997)])) rfl rfl (hb hby d3_42)
                have V1023 : Arv Z h1023 b997 kn997 .int (4 : Int32) [(.int (0 : Int32)), (.int (2 : Int32)), (.int (3 : Int32)), (.int (4 : Int32))] (.int (0 : Int32)) := Arv.set Ar1023 qc1023 S1023 M1023 Ha1023 Ga1023 rfl W1023 1 rfl (Nat.le_of_ble_eq_true rfl)
                have K1024 : ∀ t, Steps p.tables e below (T1023.setTop (mkF m 43 #[.val (.ref a1), .val (.int (4 : Int32)), .val (.int (4 : Int32)), .val (.ref b997), .val (.int (2 : Int32)), .val (.int (1 : Int32))] [])) t → Steps p.tables e below G t := fun t k => K1022 t (st1023 t k)
                have f1025 := f1015.other W1023 ne_a1_b997
                have Z1026 : n0 ≤ h1023.size := Nat.le_trans Z1016 (Keep.of_wr W1023).1
                have KP1027 : Keep h0 h1023 [] := KP1017.wr W1023 (Or.inr sz_b997)
                have N1028 := Fr.snoc X1023 N1018 g_b997
                have K1029 : ∀ t, Steps p.tables e below (T1023.setTop (mkF m 46 #[.val (.ref a1), .val (.int (4 : Int32)), .val (.int (4 : Int32)), .val (.ref b997), .val (.int (2 : Int32)), .val (.int (1 : Int32))] [(.int (2 : Int32)), (.ref a1)])) t → Steps p.tables e below G t := by
                  intro t k
                  refine K1024 t ?_
                  show Steps p.tables e below (T1023.setTop (mkF m 43 #[.val (.ref a1), .val (.int (4 : Int32)), .val (.int (4 : Int32)), .val (.ref b997), .val (.int (2 : Int32)), .val (.int (1 : Int32))] [])) _
                  refine XS.aloadN X1023.here hx rfl (hb hby d3_43) rfl rfl ?_
                  refine XS.iload X1023.here hx rfl (hb hby d3_44) rfl ?_
                  show Steps p.tables e below (T1023.setTop (mkF m 46 #[.val (.ref a1), .val (.int (4 : Int32)), .val (.int (4 : Int32)), .val (.ref b997), .val (.int (2 : Int32)), .val (.int (1 : Int32))] [(.int (2 : Int32)), (.ref a1)])) _
                  exact k
                obtain ⟨cl1030, Ar1030, qc1030, S1030, M1030, Ha1030, Ga1030⟩ := id f1025
                have hin1030 : ¬ ((2 : Int32) < 0 ∨ cl1030.slots.size ≤ ((2 : Int32)).toNatClampNeg) := inb_of S1030 ⟨by decide, by decide⟩
                have hat1030 : cl1030.slots[((2 : Int32)).toNatClampNeg]? = some (.int (0 : Int32)) := Ha1030.at hin1030 rfl
                have K1031 : ∀ t, Steps p.tables e below (T1023.setTop (mkF m 47 #[.val (.ref a1), .val (.int (4 : Int32)), .val (.int (4 : Int32)), .val (.ref b997), .val (.int (2 : Int32)), .val (.int (1 : Int32))] [(.int (0 : Int32))])) t → Steps p.tables e below G t := fun t k => K1029 t (X1023.iaload hx (j := (2 : Int32)) (v := (.int (0 : Int32))) (by rw [e1023]; exact Ar1030.1) (State.isArrayOf_alike hZ.alike Ar1030.2.1) Ar1030.2.2 hin1030 hat1030 (g := (mkF m 46 #[.val (.ref a1), .val (.int (4 : Int32)), .val (.int (4 : Int32)), .val (.ref b997), .val (.int (2 : Int32)), .val (.int (1 : Int32))] [(.int (2 : Int32)), (.ref a1)])) rfl rfl (hb hby d3_46) _ k)
                have K1032 : ∀ t, Steps p.tables e below (T1023.setTop (mkF m 42 #[.val (.ref a1), .val (.int (4 : Int32)), .val (.int (4 : Int32)), .val (.ref b997), .val (.int (0 : Int32)), .val (.int (0 : Int32))] [(.int (0 : Int32)), (.int (0 : Int32)), (.ref b997)])) t → Steps p.tables e below G t := by
                  intro t k
                  refine K1031 t ?_
                  show Steps p.tables e below (T1023.setTop (mkF m 47 #[.val (.ref a1), .val (.int (4 : Int32)), .val (.int (4 : Int32)), .val (.ref b997), .val (.int (2 : Int32)), .val (.int (1 : Int32))] [(.int (0 : Int32))])) _
                  refine XS.istore X1023.here hx rfl (hb hby d3_47) rfl (l' := #[.val (.ref a1), .val (.int (4 : Int32)), .val (.int (4 : Int32)), .val (.ref b997), .val (.int (0 : Int32)), .val (.int (1 : Int32))]) rfl ?_
                  refine XS.iinc X1023.here hx rfl (hb hby d3_49) rfl (l' := #[.val (.ref a1), .val (.int (4 : Int32)), .val (.int (4 : Int32)), .val (.ref b997), .val (.int (0 : Int32)), .val (.int (0 : Int32))]) rfl ?_
                  refine XS.goto X1023.here hx rfl (pc0 := 52) (pc' := 32) rfl (hb hby d3_52) (by decide) (by decide) ?_
                  refine XS.iload X1023.here hx rfl (hb hby d3_32) rfl ?_
                  show Steps p.tables e below (T1023.setTop (mkF m 34 #[.val (.ref a1), .val (.int (4 : Int32)), .val (.int (4 : Int32)), .val (.ref b997), .val (.int (0 : Int32)), .val (.int (0 : Int32))] [(.int (0 : Int32))])) _
                  refine XS.ifNo X1023.here hx rfl (hb hby d3_34) rfl ((if0 _ _).trans (flt (by decide)).1) ?_
                  refine XS.aloadN X1023.here hx rfl (hb hby d3_37) rfl rfl ?_
                  refine XS.iload X1023.here hx rfl (hb hby d3_38) rfl ?_
                  refine XS.iload X1023.here hx rfl (hb hby d3_40) rfl ?_
                  show Steps p.tables e below (T1023.setTop (mkF m 42 #[.val (.ref a1), .val (.int (4 : Int32)), .val (.int (4 : Int32)), .val (.ref b997), .val (.int (0 : Int32)), .val (.int (0 : Int32))] [(.int (0 : Int32)), (.int (0 : Int32)), (.ref b997)])) _
                  exact k
                obtain ⟨cl1033, Ar1033, qc1033, S1033, M1033, Ha1033, Ga1033⟩ := id V1023
                have hin1033 : ¬ ((0 : Int32) < 0 ∨ cl1033.slots.size ≤ ((0 : Int32)).toNatClampNeg) := inb_of S1033 ⟨by decide, by decide⟩
                obtain ⟨T1033, h1033, X1033, e1033, W1033, st1033⟩ := stI X1023 hx hZ e1023 Ar1033 (j := (0 : Int32)) hin1033 (g := (mkF m 42 #[.val (.ref a1), .val (.int (4 : Int32)), .val (.int (4 : Int32)), .val (.ref b997), .val (.int (0 : Int32)), .val (.int (0 : Int32))] [(.int (0 : Int32)), (.int (0 : Int32)), (.ref b997)])) rfl rfl (hb hby d3_42)
                have V1033 : Arv Z h1033 b997 kn997 .int (4 : Int32) [(.int (0 : Int32)), (.int (2 : Int32)), (.int (3 : Int32)), (.int (4 : Int32))] (.int (0 : Int32)) := Arv.set Ar1033 qc1033 S1033 M1033 Ha1033 Ga1033 rfl W1033 0 rfl (Nat.le_of_ble_eq_true rfl)
                have K1034 : ∀ t, Steps p.tables e below (T1033.setTop (mkF m 43 #[.val (.ref a1), .val (.int (4 : Int32)), .val (.int (4 : Int32)), .val (.ref b997), .val (.int (0 : Int32)), .val (.int (0 : Int32))] [])) t → Steps p.tables e below G t := fun t k => K1032 t (st1033 t k)
                have f1035 := f1025.other W1033 ne_a1_b997
                have Z1036 : n0 ≤ h1033.size := Nat.le_trans Z1026 (Keep.of_wr W1033).1
                have KP1037 : Keep h0 h1033 [] := KP1027.wr W1033 (Or.inr sz_b997)
                have N1038 := Fr.snoc X1033 N1028 g_b997
                have K1039 : ∀ t, Steps p.tables e below (T1033.setTop (mkF m 46 #[.val (.ref a1), .val (.int (4 : Int32)), .val (.int (4 : Int32)), .val (.ref b997), .val (.int (0 : Int32)), .val (.int (0 : Int32))] [(.int (0 : Int32)), (.ref a1)])) t → Steps p.tables e below G t := by
                  intro t k
                  refine K1034 t ?_
                  show Steps p.tables e below (T1033.setTop (mkF m 43 #[.val (.ref a1), .val (.int (4 : Int32)), .val (.int (4 : Int32)), .val (.ref b997), .val (.int (0 : Int32)), .val (.int (0 : Int32))] [])) _
                  refine XS.aloadN X1033.here hx rfl (hb hby d3_43) rfl rfl ?_
                  refine XS.iload X1033.here hx rfl (hb hby d3_44) rfl ?_
                  show Steps p.tables e below (T1033.setTop (mkF m 46 #[.val (.ref a1), .val (.int (4 : Int32)), .val (.int (4 : Int32)), .val (.ref b997), .val (.int (0 : Int32)), .val (.int (0 : Int32))] [(.int (0 : Int32)), (.ref a1)])) _
                  exact k
                obtain ⟨cl1040, Ar1040, qc1040, S1040, M1040, Ha1040, Ga1040⟩ := id f1035
                have hin1040 : ¬ ((0 : Int32) < 0 ∨ cl1040.slots.size ≤ ((0 : Int32)).toNatClampNeg) := inb_of S1040 ⟨by decide, by decide⟩
                have hat1040 : cl1040.slots[((0 : Int32)).toNatClampNeg]? = some (.int q0) := Ha1040.at hin1040 rfl
                have K1041 : ∀ t, Steps p.tables e below (T1033.setTop (mkF m 47 #[.val (.ref a1), .val (.int (4 : Int32)), .val (.int (4 : Int32)), .val (.ref b997), .val (.int (0 : Int32)), .val (.int (0 : Int32))] [(.int q0)])) t → Steps p.tables e below G t := fun t k => K1039 t (X1033.iaload hx (j := (0 : Int32)) (v := (.int q0)) (by rw [e1033]; exact Ar1040.1) (State.isArrayOf_alike hZ.alike Ar1040.2.1) Ar1040.2.2 hin1040 hat1040 (g := (mkF m 46 #[.val (.ref a1), .val (.int (4 : Int32)), .val (.int (4 : Int32)), .val (.ref b997), .val (.int (0 : Int32)), .val (.int (0 : Int32))] [(.int (0 : Int32)), (.ref a1)])) rfl rfl (hb hby d3_46) _ k)
                obtain ⟨fs, hr, hrun, hended, hW, hsame⟩ := X1033.leave (v := some (.ref b997)) (fun h => by rw [Bd.returns] at h; cases h)
                have KF := K1041
                rw [hG] at KF
                refine ⟨_, _, KF _ ?_, hrun, hended, _, _, rfl, ?_, ⟨_, rfl⟩, hW, hsame.mono (by decide) (by decide)⟩
                · show Steps p.tables e below (T1033.setTop (mkF m 47 #[.val (.ref a1), .val (.int (4 : Int32)), .val (.int (4 : Int32)), .val (.ref b997), .val (.int (0 : Int32)), .val (.int (0 : Int32))] [(.int q0)])) _
                  refine XS.istore X1033.here hx rfl (hb hby d3_47) rfl (l' := #[.val (.ref a1), .val (.int (4 : Int32)), .val (.int (4 : Int32)), .val (.ref b997), .val (.int q0), .val (.int (0 : Int32))]) rfl ?_
                  refine XS.iinc X1033.here hx rfl (hb hby d3_49) rfl (l' := #[.val (.ref a1), .val (.int (4 : Int32)), .val (.int (4 : Int32)), .val (.ref b997), .val (.int q0), .val (.int (-1 : Int32))]) rfl ?_
                  refine XS.goto X1033.here hx rfl (pc0 := 52) (pc' := 32) rfl (hb hby d3_52) (by decide) (by decide) ?_
                  refine XS.iload X1033.here hx rfl (hb hby d3_32) rfl ?_
                  show Steps p.tables e below (T1033.setTop (mkF m 34 #[.val (.ref a1), .val (.int (4 : Int32)), .val (.int (4 : Int32)), .val (.ref b997), .val (.int q0), .val (.int (-1 : Int32))] [(.int (-1 : Int32))])) _
                  refine XS.ifYes X1033.here hx rfl (pc0 := 34) (pc' := 55) rfl (hb hby d3_34) rfl ((if0 _ _).trans (tlt (by decide)).1) (by decide) (by decide) ?_
                  refine XS.aloadN X1033.here hx rfl (hb hby d3_55) rfl rfl ?_
                  show Steps p.tables e below (T1033.setTop (mkF m 56 #[.val (.ref a1), .val (.int (4 : Int32)), .val (.int (4 : Int32)), .val (.ref b997), .val (.int q0), .val (.int (-1 : Int32))] [(.ref b997)])) _
                  exact own_retA X1033 hx Bd.returns rfl rfl rfl (hb hby d3_56) hr
                · show Q3 Z (4 : Int32) [(.int q0), (.int q1), (.int (0 : Int32)), (.int (2 : Int32)), (.int (3 : Int32))] h0 n0 _ T1033.heap _
                  rw [e1033]
                  exact ⟨_, _, _, _, rfl, N1038, KP1037, sz_b997, V1033, ⟨by decide, by decide⟩, ⟨by decide, by decide⟩, rfl, Or.inr ⟨0, q0, 0, by decide, rfl, ⟨by decide, by decide⟩, rfl, Or.inl ⟨rfl, hq0⟩⟩, Or.inr ⟨2, 0, 0, by decide, rfl, ⟨by decide, by decide⟩, rfl, Or.inr ⟨by decide, ⟨by decide, by decide⟩, rfl, rfl⟩⟩, Or.inr ⟨3, 2, 2, by decide, rfl, ⟨by decide, by decide⟩, rfl, Or.inr ⟨by decide, ⟨by decide, by decide⟩, rfl, rfl⟩⟩, Or.inr ⟨4, 3, 3, by decide, rfl, ⟨by decide, by decide⟩, rfl, Or.inr ⟨by decide, ⟨by decide, by decide⟩, rfl, rfl⟩⟩, Or.inl (by decide)⟩
              · have K1042 : ∀ t, Steps p.tables e below (s₁.setTop (mkF m 6 #[.val (.ref a1), .val (.int (4 : Int32)), .val (.int (4 : Int32)), .val (.int (1 : Int32)), .unset, .unset] [(.int (1 : Int32)), (.ref a1)])) t → Steps p.tables e below G t := by
                  intro t k
                  refine K992 t ?_
                  show Steps p.tables e below (s₁.setTop (mkF m 4 #[.val (.ref a1), .val (.int (4 : Int32)), .val (.int (4 : Int32)), .val (.int (1 : Int32)), .unset, .unset] [])) _
                  refine XS.aloadN X0.here hx rfl (hb hby d3_4) rfl rfl ?_
                  refine XS.iloadN X0.here hx rfl (hb hby d3_5) rfl ?_
                  show Steps p.tables e below (s₁.setTop (mkF m 6 #[.val (.ref a1), .val (.int (4 : Int32)), .val (.int (4 : Int32)), .val (.int (1 : Int32)), .unset, .unset] [(.int (1 : Int32)), (.ref a1)])) _
                  exact k
                obtain ⟨cl1043, Ar1043, qc1043, S1043, M1043, Ha1043, Ga1043⟩ := id V1
                have hin1043 : ¬ ((1 : Int32) < 0 ∨ cl1043.slots.size ≤ ((1 : Int32)).toNatClampNeg) := inb_of S1043 ⟨by decide, by decide⟩
                have hat1043 : cl1043.slots[((1 : Int32)).toNatClampNeg]? = some (.int q1) := Ha1043.at hin1043 rfl
                have K1044 : ∀ t, Steps p.tables e below (s₁.setTop (mkF m 7 #[.val (.ref a1), .val (.int (4 : Int32)), .val (.int (4 : Int32)), .val (.int (1 : Int32)), .unset, .unset] [(.int q1)])) t → Steps p.tables e below G t := fun t k => K1042 t (X0.iaload hx (j := (1 : Int32)) (v := (.int q1)) (by rw [e0]; exact Ar1043.1) (State.isArrayOf_alike hZ.alike Ar1043.2.1) Ar1043.2.2 hin1043 hat1043 (g := (mkF m 6 #[.val (.ref a1), .val (.int (4 : Int32)), .val (.int (4 : Int32)), .val (.int (1 : Int32)), .unset, .unset] [(.int (1 : Int32)), (.ref a1)])) rfl rfl (hb hby d3_6) _ k)
                by_cases hc1045 : q1 < (0 : Int32)
                · have K1046 : ∀ t, Steps p.tables e below (s₁.setTop (mkF m 21 #[.val (.ref a1), .val (.int (4 : Int32)), .val (.int (4 : Int32)), .val (.int (1 : Int32)), .unset, .unset] [(.int (4 : Int32))])) t → Steps p.tables e below G t := by
                    intro t k
                    refine K1044 t ?_
                    show Steps p.tables e below (s₁.setTop (mkF m 7 #[.val (.ref a1), .val (.int (4 : Int32)), .val (.int (4 : Int32)), .val (.int (1 : Int32)), .unset, .unset] [(.int q1)])) _
                    refine XS.ifYes X0.here hx rfl (pc0 := 7) (pc' := 20) rfl (hb hby d3_7) rfl ((if0 _ _).trans (tlt hc1045).1) (by decide) (by decide) ?_
                    refine XS.iloadN X0.here hx rfl (hb hby d3_20) rfl ?_
                    show Steps p.tables e below (s₁.setTop (mkF m 21 #[.val (.ref a1), .val (.int (4 : Int32)), .val (.int (4 : Int32)), .val (.int (1 : Int32)), .unset, .unset] [(.int (4 : Int32))])) _
                    exact k
                  obtain ⟨T1047, h1047, kn1047, X1047, e1047, E1047, A1047, st1047⟩ := newP X0 hx hZ (hw _ (List.mem_of_getElem? (i := 8) rfl)) e0 (g := (mkF m 21 #[.val (.ref a1), .val (.int (4 : Int32)), .val (.int (4 : Int32)), .val (.int (1 : Int32)), .unset, .unset] [(.int (4 : Int32))])) rfl (hb hby d3_21) rfl (by decide) (cap := 4) (by decide) (by decide) (by decide) (by decide)
                  obtain ⟨b1047, g1047⟩ : ∃ z, z = h0.size := ⟨_, rfl⟩
                  rw [← g1047] at A1047 st1047
                  have ne_a1_b1047 : a1 ≠ b1047 := Nat.ne_of_lt (Nat.lt_of_lt_of_le V1.lt (Nat.le_of_eq g1047.symm))
                  have g_b1047 : n0 ≤ b1047 := Nat.le_trans Z0 (Nat.le_of_eq g1047.symm)
                  have sz_b1047 : h0.size ≤ b1047 := Nat.le_trans KP0.1 (Nat.le_of_eq g1047.symm)
                  have f1048 := V1.ext E1047
                  have Z1049 : n0 ≤ h1047.size := Nat.le_trans Z0 E1047.1
                  have KP1050 : Keep h0 h1047 [] := KP0.ext E1047
                  have K1051 : ∀ t, Steps p.tables e below (T1047.setTop (mkF m 23 #[.val (.ref a1), .val (.int (4 : Int32)), .val (.int (4 : Int32)), .val (.int (1 : Int32)), .unset, .unset] [(.ref b1047)])) t → Steps p.tables e below G t := fun t k => K1046 t (st1047 t k)
                  have V1047 : Arv Z h1047 b1047 kn1047 .int (4 : Int32) [(.int (0 : Int32)), (.int (0 : Int32)), (.int (0 : Int32)), (.int (0 : Int32))] (.int (0 : Int32)) := (Arv.new A1047 (by decide)).pad (pad_rep [] (.int (0 : Int32)) 4)
                  have K1052 : ∀ t, Steps p.tables e below (T1047.setTop (mkF m 42 #[.val (.ref a1), .val (.int (4 : Int32)), .val (.int (4 : Int32)), .val (.ref b1047), .val (.int (4 : Int32)), .val (.int (3 : Int32))] [(.int (4 : Int32)), (.int (3 : Int32)), (.ref b1047)])) t → Steps p.tables e below G t := by
                    intro t k
                    refine K1051 t ?_
                    show Steps p.tables e below (T1047.setTop (mkF m 23 #[.val (.ref a1), .val (.int (4 : Int32)), .val (.int (4 : Int32)), .val (.int (1 : Int32)), .unset, .unset] [(.ref b1047)])) _
                    refine XS.astoreN X1047.here hx rfl (hb hby d3_23) rfl rfl (l' := #[.val (.ref a1), .val (.int (4 : Int32)), .val (.int (4 : Int32)), .val (.ref b1047), .unset, .unset]) rfl ?_
                    refine XS.iloadN X1047.here hx rfl (hb hby d3_24) rfl ?_
                    refine XS.istore X1047.here hx rfl (hb hby d3_25) rfl (l' := #[.val (.ref a1), .val (.int (4 : Int32)), .val (.int (4 : Int32)), .val (.ref b1047), .val (.int (4 : Int32)), .unset]) rfl ?_
                    refine XS.iloadN X1047.here hx rfl (hb hby d3_27) rfl ?_
                    show Steps p.tables e below (T1047.setTop (mkF m 28 #[.val (.ref a1), .val (.int (4 : Int32)), .val (.int (4 : Int32)), .val (.ref b1047), .val (.int (4 : Int32)), .unset] [(.int (4 : Int32))])) _
                    refine XS.iconst X1047.here hx rfl (hb hby d3_28) ?_
                    refine XS.isub X1047.here hx rfl (hb hby d3_29) rfl ?_
                    refine XS.istore X1047.here hx rfl (hb hby d3_30) rfl (l' := #[.val (.ref a1), .val (.int (4 : Int32)), .val (.int (4 : Int32)), .val (.ref b1047), .val (.int (4 : Int32)), .val (.int (3 : Int32))]) rfl ?_
                    refine XS.iload X1047.here hx rfl (hb hby d3_32) rfl ?_
                    show Steps p.tables e below (T1047.setTop (mkF m 34 #[.val (.ref a1), .val (.int (4 : Int32)), .val (.int (4 : Int32)), .val (.ref b1047), .val (.int (4 : Int32)), .val (.int (3 : Int32))] [(.int (3 : Int32))])) _
                    refine XS.ifNo X1047.here hx rfl (hb hby d3_34) rfl ((if0 _ _).trans (flt (by decide)).1) ?_
                    refine XS.aloadN X1047.here hx rfl (hb hby d3_37) rfl rfl ?_
                    refine XS.iload X1047.here hx rfl (hb hby d3_38) rfl ?_
                    refine XS.iload X1047.here hx rfl (hb hby d3_40) rfl ?_
                    show Steps p.tables e below (T1047.setTop (mkF m 42 #[.val (.ref a1), .val (.int (4 : Int32)), .val (.int (4 : Int32)), .val (.ref b1047), .val (.int (4 : Int32)), .val (.int (3 : Int32))] [(.int (4 : Int32)), (.int (3 : Int32)), (.ref b1047)])) _
                    exact k
                  obtain ⟨cl1053, Ar1053, qc1053, S1053, M1053, Ha1053, Ga1053⟩ := id V1047
                  have hin1053 : ¬ ((3 : Int32) < 0 ∨ cl1053.slots.size ≤ ((3 : Int32)).toNatClampNeg) := inb_of S1053 ⟨by decide, by decide⟩
                  obtain ⟨T1053, h1053, X1053, e1053, W1053, st1053⟩ := stI X1047 hx hZ e1047 Ar1053 (j := (3 : Int32)) hin1053 (g := (mkF m 42 #[.val (.ref a1), .val (.int (4 : Int32)), .val (.int (4 : Int32)), .val (.ref b1047), .val (.int (4 : Int32)), .val (.int (3 : Int32))] [(.int (4 : Int32)), (.int (3 : Int32)), (.ref b1047)])) rfl rfl (hb hby d3_42)
                  have V1053 : Arv Z h1053 b1047 kn1047 .int (4 : Int32) [(.int (0 : Int32)), (.int (0 : Int32)), (.int (0 : Int32)), (.int (4 : Int32))] (.int (0 : Int32)) := Arv.set Ar1053 qc1053 S1053 M1053 Ha1053 Ga1053 rfl W1053 3 rfl (Nat.le_of_ble_eq_true rfl)
                  have K1054 : ∀ t, Steps p.tables e below (T1053.setTop (mkF m 43 #[.val (.ref a1), .val (.int (4 : Int32)), .val (.int (4 : Int32)), .val (.ref b1047), .val (.int (4 : Int32)), .val (.int (3 : Int32))] [])) t → Steps p.tables e below G t := fun t k => K1052 t (st1053 t k)
                  have f1055 := f1048.other W1053 ne_a1_b1047
                  have Z1056 : n0 ≤ h1053.size := Nat.le_trans Z1049 (Keep.of_wr W1053).1
                  have KP1057 : Keep h0 h1053 [] := KP1050.wr W1053 (Or.inr sz_b1047)
                  have N1058 := Fr.snoc X1053 N0 g_b1047
                  have K1059 : ∀ t, Steps p.tables e below (T1053.setTop (mkF m 46 #[.val (.ref a1), .val (.int (4 : Int32)), .val (.int (4 : Int32)), .val (.ref b1047), .val (.int (4 : Int32)), .val (.int (3 : Int32))] [(.int (4 : Int32)), (.ref a1)])) t → Steps p.tables e below G t := by
                    intro t k
                    refine K1054 t ?_
                    show Steps p.tables e below (T1053.setTop (mkF m 43 #[.val (.ref a1), .val (.int (4 : Int32)), .val (.int (4 : Int32)), .val (.ref b1047), .val (.int (4 : Int32)), .val (.int (3 : Int32))] [])) _
                    refine XS.aloadN X1053.here hx rfl (hb hby d3_43) rfl rfl ?_
                    refine XS.iload X1053.here hx rfl (hb hby d3_44) rfl ?_
                    show Steps p.tables e below (T1053.setTop (mkF m 46 #[.val (.ref a1), .val (.int (4 : Int32)), .val (.int (4 : Int32)), .val (.ref b1047), .val (.int (4 : Int32)), .val (.int (3 : Int32))] [(.int (4 : Int32)), (.ref a1)])) _
                    exact k
                  obtain ⟨cl1060, Ar1060, qc1060, S1060, M1060, Ha1060, Ga1060⟩ := id f1055
                  have hin1060 : ¬ ((4 : Int32) < 0 ∨ cl1060.slots.size ≤ ((4 : Int32)).toNatClampNeg) := inb_of S1060 ⟨by decide, by decide⟩
                  have hat1060 : cl1060.slots[((4 : Int32)).toNatClampNeg]? = some (.int (3 : Int32)) := Ha1060.at hin1060 rfl
                  have K1061 : ∀ t, Steps p.tables e below (T1053.setTop (mkF m 47 #[.val (.ref a1), .val (.int (4 : Int32)), .val (.int (4 : Int32)), .val (.ref b1047), .val (.int (4 : Int32)), .val (.int (3 : Int32))] [(.int (3 : Int32))])) t → Steps p.tables e below G t := fun t k => K1059 t (X1053.iaload hx (j := (4 : Int32)) (v := (.int (3 : Int32))) (by rw [e1053]; exact Ar1060.1) (State.isArrayOf_alike hZ.alike Ar1060.2.1) Ar1060.2.2 hin1060 hat1060 (g := (mkF m 46 #[.val (.ref a1), .val (.int (4 : Int32)), .val (.int (4 : Int32)), .val (.ref b1047), .val (.int (4 : Int32)), .val (.int (3 : Int32))] [(.int (4 : Int32)), (.ref a1)])) rfl rfl (hb hby d3_46) _ k)
                  have K1062 : ∀ t, Steps p.tables e below (T1053.setTop (mkF m 42 #[.val (.ref a1), .val (.int (4 : Int32)), .val (.int (4 : Int32)), .val (.ref b1047), .val (.int (3 : Int32)), .val (.int (2 : Int32))] [(.int (3 : Int32)), (.int (2 : Int32)), (.ref b1047)])) t → Steps p.tables e below G t := by
                    intro t k
                    refine K1061 t ?_
                    show Steps p.tables e below (T1053.setTop (mkF m 47 #[.val (.ref a1), .val (.int (4 : Int32)), .val (.int (4 : Int32)), .val (.ref b1047), .val (.int (4 : Int32)), .val (.int (3 : Int32))] [(.int (3 : Int32))])) _
                    refine XS.istore X1053.here hx rfl (hb hby d3_47) rfl (l' := #[.val (.ref a1), .val (.int (4 : Int32)), .val (.int (4 : Int32)), .val (.ref b1047), .val (.int (3 : Int32)), .val (.int (3 : Int32))]) rfl ?_
                    refine XS.iinc X1053.here hx rfl (hb hby d3_49) rfl (l' := #[.val (.ref a1), .val (.int (4 : Int32)), .val (.int (4 : Int32)), .val (.ref b1047), .val (.int (3 : Int32)), .val (.int (2 : Int32))]) rfl ?_
                    refine XS.goto X1053.here hx rfl (pc0 := 52) (pc' := 32) rfl (hb hby d3_52) (by decide) (by decide) ?_
                    refine XS.iload X1053.here hx rfl (hb hby d3_32) rfl ?_
                    show Steps p.tables e below (T1053.setTop (mkF m 34 #[.val (.ref a1), .val (.int (4 : Int32)), .val (.int (4 : Int32)), .val (.ref b1047), .val (.int (3 : Int32)), .val (.int (2 : Int32))] [(.int (2 : Int32))])) _
                    refine XS.ifNo X1053.here hx rfl (hb hby d3_34) rfl ((if0 _ _).trans (flt (by decide)).1) ?_
                    refine XS.aloadN X1053.here hx rfl (hb hby d3_37) rfl rfl ?_
                    refine XS.iload X1053.here hx rfl (hb hby d3_38) rfl ?_
                    refine XS.iload X1053.here hx rfl (hb hby d3_40) rfl ?_
                    show Steps p.tables e below (T1053.setTop (mkF m 42 #[.val (.ref a1), .val (.int (4 : Int32)), .val (.int (4 : Int32)), .val (.ref b1047), .val (.int (3 : Int32)), .val (.int (2 : Int32))] [(.int (3 : Int32)), (.int (2 : Int32)), (.ref b1047)])) _
                    exact k
                  obtain ⟨cl1063, Ar1063, qc1063, S1063, M1063, Ha1063, Ga1063⟩ := id V1053
                  have hin1063 : ¬ ((2 : Int32) < 0 ∨ cl1063.slots.size ≤ ((2 : Int32)).toNatClampNeg) := inb_of S1063 ⟨by decide, by decide⟩
                  obtain ⟨T1063, h1063, X1063, e1063, W1063, st1063⟩ := stI X1053 hx hZ e1053 Ar1063 (j := (2 : Int32)) hin1063 (g := (mkF m 42 #[.val (.ref a1), .val (.int (4 : Int32)), .val (.int (4 : Int32)), .val (.ref b1047), .val (.int (3 : Int32)), .val (.int (2 : Int32))] [(.int (3 : Int32)), (.int (2 : Int32)), (.ref b1047)])) rfl rfl (hb hby d3_42)
                  have V1063 : Arv Z h1063 b1047 kn1047 .int (4 : Int32) [(.int (0 : Int32)), (.int (0 : Int32)), (.int (3 : Int32)), (.int (4 : Int32))] (.int (0 : Int32)) := Arv.set Ar1063 qc1063 S1063 M1063 Ha1063 Ga1063 rfl W1063 2 rfl (Nat.le_of_ble_eq_true rfl)
                  have K1064 : ∀ t, Steps p.tables e below (T1063.setTop (mkF m 43 #[.val (.ref a1), .val (.int (4 : Int32)), .val (.int (4 : Int32)), .val (.ref b1047), .val (.int (3 : Int32)), .val (.int (2 : Int32))] [])) t → Steps p.tables e below G t := fun t k => K1062 t (st1063 t k)
                  have f1065 := f1055.other W1063 ne_a1_b1047
                  have Z1066 : n0 ≤ h1063.size := Nat.le_trans Z1056 (Keep.of_wr W1063).1
                  have KP1067 : Keep h0 h1063 [] := KP1057.wr W1063 (Or.inr sz_b1047)
                  have N1068 := Fr.snoc X1063 N1058 g_b1047
                  have K1069 : ∀ t, Steps p.tables e below (T1063.setTop (mkF m 46 #[.val (.ref a1), .val (.int (4 : Int32)), .val (.int (4 : Int32)), .val (.ref b1047), .val (.int (3 : Int32)), .val (.int (2 : Int32))] [(.int (3 : Int32)), (.ref a1)])) t → Steps p.tables e below G t := by
                    intro t k
                    refine K1064 t ?_
                    show Steps p.tables e below (T1063.setTop (mkF m 43 #[.val (.ref a1), .val (.int (4 : Int32)), .val (.int (4 : Int32)), .val (.ref b1047), .val (.int (3 : Int32)), .val (.int (2 : Int32))] [])) _
                    refine XS.aloadN X1063.here hx rfl (hb hby d3_43) rfl rfl ?_
                    refine XS.iload X1063.here hx rfl (hb hby d3_44) rfl ?_
                    show Steps p.tables e below (T1063.setTop (mkF m 46 #[.val (.ref a1), .val (.int (4 : Int32)), .val (.int (4 : Int32)), .val (.ref b1047), .val (.int (3 : Int32)), .val (.int (2 : Int32))] [(.int (3 : Int32)), (.ref a1)])) _
                    exact k
                  obtain ⟨cl1070, Ar1070, qc1070, S1070, M1070, Ha1070, Ga1070⟩ := id f1065
                  have hin1070 : ¬ ((3 : Int32) < 0 ∨ cl1070.slots.size ≤ ((3 : Int32)).toNatClampNeg) := inb_of S1070 ⟨by decide, by decide⟩
                  have hat1070 : cl1070.slots[((3 : Int32)).toNatClampNeg]? = some (.int (2 : Int32)) := Ha1070.at hin1070 rfl
                  have K1071 : ∀ t, Steps p.tables e below (T1063.setTop (mkF m 47 #[.val (.ref a1), .val (.int (4 : Int32)), .val (.int (4 : Int32)), .val (.ref b1047), .val (.int (3 : Int32)), .val (.int (2 : Int32))] [(.int (2 : Int32))])) t → Steps p.tables e below G t := fun t k => K1069 t (X1063.iaload hx (j := (3 : Int32)) (v := (.int (2 : Int32))) (by rw [e1063]; exact Ar1070.1) (State.isArrayOf_alike hZ.alike Ar1070.2.1) Ar1070.2.2 hin1070 hat1070 (g := (mkF m 46 #[.val (.ref a1), .val (.int (4 : Int32)), .val (.int (4 : Int32)), .val (.ref b1047), .val (.int (3 : Int32)), .val (.int (2 : Int32))] [(.int (3 : Int32)), (.ref a1)])) rfl rfl (hb hby d3_46) _ k)
                  have K1072 : ∀ t, Steps p.tables e below (T1063.setTop (mkF m 42 #[.val (.ref a1), .val (.int (4 : Int32)), .val (.int (4 : Int32)), .val (.ref b1047), .val (.int (2 : Int32)), .val (.int (1 : Int32))] [(.int (2 : Int32)), (.int (1 : Int32)), (.ref b1047)])) t → Steps p.tables e below G t := by
                    intro t k
                    refine K1071 t ?_
                    show Steps p.tables e below (T1063.setTop (mkF m 47 #[.val (.ref a1), .val (.int (4 : Int32)), .val (.int (4 : Int32)), .val (.ref b1047), .val (.int (3 : Int32)), .val (.int (2 : Int32))] [(.int (2 : Int32))])) _
                    refine XS.istore X1063.here hx rfl (hb hby d3_47) rfl (l' := #[.val (.ref a1), .val (.int (4 : Int32)), .val (.int (4 : Int32)), .val (.ref b1047), .val (.int (2 : Int32)), .val (.int (2 : Int32))]) rfl ?_
                    refine XS.iinc X1063.here hx rfl (hb hby d3_49) rfl (l' := #[.val (.ref a1), .val (.int (4 : Int32)), .val (.int (4 : Int32)), .val (.ref b1047), .val (.int (2 : Int32)), .val (.int (1 : Int32))]) rfl ?_
                    refine XS.goto X1063.here hx rfl (pc0 := 52) (pc' := 32) rfl (hb hby d3_52) (by decide) (by decide) ?_
                    refine XS.iload X1063.here hx rfl (hb hby d3_32) rfl ?_
                    show Steps p.tables e below (T1063.setTop (mkF m 34 #[.val (.ref a1), .val (.int (4 : Int32)), .val (.int (4 : Int32)), .val (.ref b1047), .val (.int (2 : Int32)), .val (.int (1 : Int32))] [(.int (1 : Int32))])) _
                    refine XS.ifNo X1063.here hx rfl (hb hby d3_34) rfl ((if0 _ _).trans (flt (by decide)).1) ?_
                    refine XS.aloadN X1063.here hx rfl (hb hby d3_37) rfl rfl ?_
                    refine XS.iload X1063.here hx rfl (hb hby d3_38) rfl ?_
                    refine XS.iload X1063.here hx rfl (hb hby d3_40) rfl ?_
                    show Steps p.tables e below (T1063.setTop (mkF m 42 #[.val (.ref a1), .val (.int (4 : Int32)), .val (.int (4 : Int32)), .val (.ref b1047), .val (.int (2 : Int32)), .val (.int (1 : Int32))] [(.int (2 : Int32)), (.int (1 : Int32)), (.ref b1047)])) _
                    exact k
                  obtain ⟨cl1073, Ar1073, qc1073, S1073, M1073, Ha1073, Ga1073⟩ := id V1063
                  have hin1073 : ¬ ((1 : Int32) < 0 ∨ cl1073.slots.size ≤ ((1 : Int32)).toNatClampNeg) := inb_of S1073 ⟨by decide, by decide⟩
                  obtain ⟨T1073, h1073, X1073, e1073, W1073, st1073⟩ := stI X1063 hx hZ e1063 Ar1073 (j := (1 : Int32)) hin1073 (g := (mkF m 42 #[.val (.ref a1), .val (.int (4 : Int32)), .val (.int (4 : Int32)), .val (.ref b1047), .val (.int (2 : Int32)), .val (.int (1 : Int32))] [(.int (2 : Int32)), (.int (1 : Int32)), (.ref b1047)])) rfl rfl (hb hby d3_42)
                  have V1073 : Arv Z h1073 b1047 kn1047 .int (4 : Int32) [(.int (0 : Int32)), (.int (2 : Int32)), (.int (3 : Int32)), (.int (4 : Int32))] (.int (0 : Int32)) := Arv.set Ar1073 qc1073 S1073 M1073 Ha1073 Ga1073 rfl W1073 1 rfl (Nat.le_of_ble_eq_true rfl)
                  have K1074 : ∀ t, Steps p.tables e below (T1073.setTop (mkF m 43 #[.val (.ref a1), .val (.int (4 : Int32)), .val (.int (4 : Int32)), .val (.ref b1047), .val (.int (2 : Int32)), .val (.int (1 : Int32))] [])) t → Steps p.tables e below G t := fun t k => K1072 t (st1073 t k)
                  have f1075 := f1065.other W1073 ne_a1_b1047
                  have Z1076 : n0 ≤ h1073.size := Nat.le_trans Z1066 (Keep.of_wr W1073).1
                  have KP1077 : Keep h0 h1073 [] := KP1067.wr W1073 (Or.inr sz_b1047)
                  have N1078 := Fr.snoc X1073 N1068 g_b1047
                  have K1079 : ∀ t, Steps p.tables e below (T1073.setTop (mkF m 46 #[.val (.ref a1), .val (.int (4 : Int32)), .val (.int (4 : Int32)), .val (.ref b1047), .val (.int (2 : Int32)), .val (.int (1 : Int32))] [(.int (2 : Int32)), (.ref a1)])) t → Steps p.tables e below G t := by
                    intro t k
                    refine K1074 t ?_
                    show Steps p.tables e below (T1073.setTop (mkF m 43 #[.val (.ref a1), .val (.int (4 : Int32)), .val (.int (4 : Int32)), .val (.ref b1047), .val (.int (2 : Int32)), .val (.int (1 : Int32))] [])) _
                    refine XS.aloadN X1073.here hx rfl (hb hby d3_43) rfl rfl ?_
                    refine XS.iload X1073.here hx rfl (hb hby d3_44) rfl ?_
                    show Steps p.tables e below (T1073.setTop (mkF m 46 #[.val (.ref a1), .val (.int (4 : Int32)), .val (.int (4 : Int32)), .val (.ref b1047), .val (.int (2 : Int32)), .val (.int (1 : Int32))] [(.int (2 : Int32)), (.ref a1)])) _
                    exact k
                  obtain ⟨cl1080, Ar1080, qc1080, S1080, M1080, Ha1080, Ga1080⟩ := id f1075
                  have hin1080 : ¬ ((2 : Int32) < 0 ∨ cl1080.slots.size ≤ ((2 : Int32)).toNatClampNeg) := inb_of S1080 ⟨by decide, by decide⟩
                  have hat1080 : cl1080.slots[((2 : Int32)).toNatClampNeg]? = some (.int (1 : Int32)) := Ha1080.at hin1080 rfl
                  have K1081 : ∀ t, Steps p.tables e below (T1073.setTop (mkF m 47 #[.val (.ref a1), .val (.int (4 : Int32)), .val (.int (4 : Int32)), .val (.ref b1047), .val (.int (2 : Int32)), .val (.int (1 : Int32))] [(.int (1 : Int32))])) t → Steps p.tables e below G t := fun t k => K1079 t (X1073.iaload hx (j := (2 : Int32)) (v := (.int (1 : Int32))) (by rw [e1073]; exact Ar1080.1) (State.isArrayOf_alike hZ.alike Ar1080.2.1) Ar1080.2.2 hin1080 hat1080 (g := (mkF m 46 #[.val (.ref a1), .val (.int (4 : Int32)), .val (.int (4 : Int32)), .val (.ref b1047), .val (.int (2 : Int32)), .val (.int (1 : Int32))] [(.int (2 : Int32)), (.ref a1)])) rfl rfl (hb hby d3_46) _ k)
                  have K1082 : ∀ t, Steps p.tables e below (T1073.setTop (mkF m 42 #[.val (.ref a1), .val (.int (4 : Int32)), .val (.int (4 : Int32)), .val (.ref b1047), .val (.int (1 : Int32)), .val (.int (0 : Int32))] [(.int (1 : Int32)), (.int (0 : Int32)), (.ref b1047)])) t → Steps p.tables e below G t := by
                    intro t k
                    refine K1081 t ?_
                    show Steps p.tables e below (T1073.setTop (mkF m 47 #[.val (.ref a1), .val (.int (4 : Int32)), .val (.int (4 : Int32)), .val (.ref b1047), .val (.int (2 : Int32)), .val (.int (1 : Int32))] [(.int (1 : Int32))])) _
                    refine XS.istore X1073.here hx rfl (hb hby d3_47) rfl (l' := #[.val (.ref a1), .val (.int (4 : Int32)), .val (.int (4 : Int32)), .val (.ref b1047), .val (.int (1 : Int32)), .val (.int (1 : Int32))]) rfl ?_
                    refine XS.iinc X1073.here hx rfl (hb hby d3_49) rfl (l' := #[.val (.ref a1), .val (.int (4 : Int32)), .val (.int (4 : Int32)), .val (.ref b1047), .val (.int (1 : Int32)), .val (.int (0 : Int32))]) rfl ?_
                    refine XS.goto X1073.here hx rfl (pc0 := 52) (pc' := 32) rfl (hb hby d3_52) (by decide) (by decide) ?_
                    refine XS.iload X1073.here hx rfl (hb hby d3_32) rfl ?_
                    show Steps p.tables e below (T1073.setTop (mkF m 34 #[.val (.ref a1), .val (.int (4 : Int32)), .val (.int (4 : Int32)), .val (.ref b1047), .val (.int (1 : Int32)), .val (.int (0 : Int32))] [(.int (0 : Int32))])) _
                    refine XS.ifNo X1073.here hx rfl (hb hby d3_34) rfl ((if0 _ _).trans (flt (by decide)).1) ?_
                    refine XS.aloadN X1073.here hx rfl (hb hby d3_37) rfl rfl ?_
                    refine XS.iload X1073.here hx rfl (hb hby d3_38) rfl ?_
                    refine XS.iload X1073.here hx rfl (hb hby d3_40) rfl ?_
                    show Steps p.tables e below (T1073.setTop (mkF m 42 #[.val (.ref a1), .val (.int (4 : Int32)), .val (.int (4 : Int32)), .val (.ref b1047), .val (.int (1 : Int32)), .val (.int (0 : Int32))] [(.int (1 : Int32)), (.int (0 : Int32)), (.ref b1047)])) _
                    exact k
                  obtain ⟨cl1083, Ar1083, qc1083, S1083, M1083, Ha1083, Ga1083⟩ := id V1073
                  have hin1083 : ¬ ((0 : Int32) < 0 ∨ cl1083.slots.size ≤ ((0 : Int32)).toNatClampNeg) := inb_of S1083 ⟨by decide, by decide⟩
                  obtain ⟨T1083, h1083, X1083, e1083, W1083, st1083⟩ := stI X1073 hx hZ e1073 Ar1083 (j := (0 : Int32)) hin1083 (g := (mkF m 42 #[.val (.ref a1), .val (.int (4 : Int32)), .val (.int (4 : Int32)), .val (.ref b1047), .val (.int (1 : Int32)), .val (.int (0 : Int32))] [(.int (1 : Int32)), (.int (0 : Int32)), (.ref b1047)])) rfl rfl (hb hby d3_42)
                  have V1083 : Arv Z h1083 b1047 kn1047 .int (4 : Int32) [(.int (1 : Int32)), (.int (2 : Int32)), (.int (3 : Int32)), (.int (4 : Int32))] (.int (0 : Int32)) := Arv.set Ar1083 qc1083 S1083 M1083 Ha1083 Ga1083 rfl W1083 0 rfl (Nat.le_of_ble_eq_true rfl)
                  have K1084 : ∀ t, Steps p.tables e below (T1083.setTop (mkF m 43 #[.val (.ref a1), .val (.int (4 : Int32)), .val (.int (4 : Int32)), .val (.ref b1047), .val (.int (1 : Int32)), .val (.int (0 : Int32))] [])) t → Steps p.tables e below G t := fun t k => K1082 t (st1083 t k)
                  have f1085 := f1075.other W1083 ne_a1_b1047
                  have Z1086 : n0 ≤ h1083.size := Nat.le_trans Z1076 (Keep.of_wr W1083).1
                  have KP1087 : Keep h0 h1083 [] := KP1077.wr W1083 (Or.inr sz_b1047)
                  have N1088 := Fr.snoc X1083 N1078 g_b1047
                  have K1089 : ∀ t, Steps p.tables e below (T1083.setTop (mkF m 46 #[.val (.ref a1), .val (.int (4 : Int32)), .val (.int (4 : Int32)), .val (.ref b1047), .val (.int (1 : Int32)), .val (.int (0 : Int32))] [(.int (1 : Int32)), (.ref a1)])) t → Steps p.tables e below G t := by
                    intro t k
                    refine K1084 t ?_
                    show Steps p.tables e below (T1083.setTop (mkF m 43 #[.val (.ref a1), .val (.int (4 : Int32)), .val (.int (4 : Int32)), .val (.ref b1047), .val (.int (1 : Int32)), .val (.int (0 : Int32))] [])) _
                    refine XS.aloadN X1083.here hx rfl (hb hby d3_43) rfl rfl ?_
                    refine XS.iload X1083.here hx rfl (hb hby d3_44) rfl ?_
                    show Steps p.tables e below (T1083.setTop (mkF m 46 #[.val (.ref a1), .val (.int (4 : Int32)), .val (.int (4 : Int32)), .val (.ref b1047), .val (.int (1 : Int32)), .val (.int (0 : Int32))] [(.int (1 : Int32)), (.ref a1)])) _
                    exact k
                  obtain ⟨cl1090, Ar1090, qc1090, S1090, M1090, Ha1090, Ga1090⟩ := id f1085
                  have hin1090 : ¬ ((1 : Int32) < 0 ∨ cl1090.slots.size ≤ ((1 : Int32)).toNatClampNeg) := inb_of S1090 ⟨by decide, by decide⟩
                  have hat1090 : cl1090.slots[((1 : Int32)).toNatClampNeg]? = some (.int q1) := Ha1090.at hin1090 rfl
                  have K1091 : ∀ t, Steps p.tables e below (T1083.setTop (mkF m 47 #[.val (.ref a1), .val (.int (4 : Int32)), .val (.int (4 : Int32)), .val (.ref b1047), .val (.int (1 : Int32)), .val (.int (0 : Int32))] [(.int q1)])) t → Steps p.tables e below G t := fun t k => K1089 t (X1083.iaload hx (j := (1 : Int32)) (v := (.int q1)) (by rw [e1083]; exact Ar1090.1) (State.isArrayOf_alike hZ.alike Ar1090.2.1) Ar1090.2.2 hin1090 hat1090 (g := (mkF m 46 #[.val (.ref a1), .val (.int (4 : Int32)), .val (.int (4 : Int32)), .val (.ref b1047), .val (.int (1 : Int32)), .val (.int (0 : Int32))] [(.int (1 : Int32)), (.ref a1)])) rfl rfl (hb hby d3_46) _ k)
                  obtain ⟨fs, hr, hrun, hended, hW, hsame⟩ := X1083.leave (v := some (.ref b1047)) (fun h => by rw [Bd.returns] at h; cases h)
                  have KF := K1091
                  rw [hG] at KF
                  refine ⟨_, _, KF _ ?_, hrun, hended, _, _, rfl, ?_, ⟨_, rfl⟩, hW, hsame.mono (by decide) (by decide)⟩
                  · show Steps p.tables e below (T1083.setTop (mkF m 47 #[.val (.ref a1), .val (.int (4 : Int32)), .val (.int (4 : Int32)), .val (.ref b1047), .val (.int (1 : Int32)), .val (.int (0 : Int32))] [(.int q1)])) _
                    refine XS.istore X1083.here hx rfl (hb hby d3_47) rfl (l' := #[.val (.ref a1), .val (.int (4 : Int32)), .val (.int (4 : Int32)), .val (.ref b1047), .val (.int q1), .val (.int (0 : Int32))]) rfl ?_
                    refine XS.iinc X1083.here hx rfl (hb hby d3_49) rfl (l' := #[.val (.ref a1), .val (.int (4 : Int32)), .val (.int (4 : Int32)), .val (.ref b1047), .val (.int q1), .val (.int (-1 : Int32))]) rfl ?_
                    refine XS.goto X1083.here hx rfl (pc0 := 52) (pc' := 32) rfl (hb hby d3_52) (by decide) (by decide) ?_
                    refine XS.iload X1083.here hx rfl (hb hby d3_32) rfl ?_
                    show Steps p.tables e below (T1083.setTop (mkF m 34 #[.val (.ref a1), .val (.int (4 : Int32)), .val (.int (4 : Int32)), .val (.ref b1047), .val (.int q1), .val (.int (-1 : Int32))] [(.int (-1 : Int32))])) _
                    refine XS.ifYes X1083.here hx rfl (pc0 := 34) (pc' := 55) rfl (hb hby d3_34) rfl ((if0 _ _).trans (tlt (by decide)).1) (by decide) (by decide) ?_
                    refine XS.aloadN X1083.here hx rfl (hb hby d3_55) rfl rfl ?_
                    show Steps p.tables e below (T1083.setTop (mkF m 56 #[.val (.ref a1), .val (.int (4 : Int32)), .val (.int (4 : Int32)), .val (.ref b1047), .val (.int q1), .val (.int (-1 : Int32))] [(.ref b1047)])) _
                    exact own_retA X1083 hx Bd.returns rfl rfl rfl (hb hby d3_56) hr
                  · show Q3 Z (4 : Int32) [(.int q0), (.int q1), (.int (1 : Int32)), (.int (2 : Int32)), (.int (3 : Int32))] h0 n0 _ T1083.heap _
                    rw [e1083]
                    exact ⟨_, _, _, _, rfl, N1088, KP1087, sz_b1047, V1083, ⟨by decide, by decide⟩, ⟨by decide, by decide⟩, rfl, Or.inr ⟨1, q1, 0, by decide, rfl, ⟨by decide, by decide⟩, rfl, Or.inl ⟨rfl, hc1045⟩⟩, Or.inr ⟨2, 1, 1, by decide, rfl, ⟨by decide, by decide⟩, rfl, Or.inr ⟨by decide, ⟨by decide, by decide⟩, rfl, rfl⟩⟩, Or.inr ⟨3, 2, 2, by decide, rfl, ⟨by decide, by decide⟩, rfl, Or.inr ⟨by decide, ⟨by decide, by decide⟩, rfl, rfl⟩⟩, Or.inr ⟨4, 3, 3, by decide, rfl, ⟨by decide, by decide⟩, rfl, Or.inr ⟨by decide, ⟨by decide, by decide⟩, rfl, rfl⟩⟩, Or.inl (by decide)⟩
                · have K1092 : ∀ t, Steps p.tables e below (s₁.setTop (mkF m 15 #[.val (.ref a1), .val (.int (4 : Int32)), .val (.int (5 : Int32)), .val (.int (1 : Int32)), .unset, .unset] [(.int (1 : Int32)), (.ref a1)])) t → Steps p.tables e below G t := by
                    intro t k
                    refine K1044 t ?_
                    show Steps p.tables e below (s₁.setTop (mkF m 7 #[.val (.ref a1), .val (.int (4 : Int32)), .val (.int (4 : Int32)), .val (.int (1 : Int32)), .unset, .unset] [(.int q1)])) _
                    refine XS.ifNo X0.here hx rfl (hb hby d3_7) rfl ((if0 _ _).trans (flt hc1045).1) ?_
                    refine XS.iinc X0.here hx rfl (hb hby d3_10) rfl (l' := #[.val (.ref a1), .val (.int (4 : Int32)), .val (.int (5 : Int32)), .val (.int (1 : Int32)), .unset, .unset]) rfl ?_
                    refine XS.aloadN X0.here hx rfl (hb hby d3_13) rfl rfl ?_
                    refine XS.iloadN X0.here hx rfl (hb hby d3_14) rfl ?_
                    show Steps p.tables e below (s₁.setTop (mkF m 15 #[.val (.ref a1), .val (.int (4 : Int32)), .val (.int (5 : Int32)), .val (.int (1 : Int32)), .unset, .unset] [(.int (1 : Int32)), (.ref a1)])) _
                    exact k
                  obtain ⟨cl1093, Ar1093, qc1093, S1093, M1093, Ha1093, Ga1093⟩ := id V1
                  have hin1093 : ¬ ((1 : Int32) < 0 ∨ cl1093.slots.size ≤ ((1 : Int32)).toNatClampNeg) := inb_of S1093 ⟨by decide, by decide⟩
                  have hat1093 : cl1093.slots[((1 : Int32)).toNatClampNeg]? = some (.int q1) := Ha1093.at hin1093 rfl
                  have K1094 : ∀ t, Steps p.tables e below (s₁.setTop (mkF m 16 #[.val (.ref a1), .val (.int (4 : Int32)), .val (.int (5 : Int32)), .val (.int (1 : Int32)), .unset, .unset] [(.int q1)])) t → Steps p.tables e below G t := fun t k => K1092 t (X0.iaload hx (j := (1 : Int32)) (v := (.int q1)) (by rw [e0]; exact Ar1093.1) (State.isArrayOf_alike hZ.alike Ar1093.2.1) Ar1093.2.2 hin1093 hat1093 (g := (mkF m 15 #[.val (.ref a1), .val (.int (4 : Int32)), .val (.int (5 : Int32)), .val (.int (1 : Int32)), .unset, .unset] [(.int (1 : Int32)), (.ref a1)])) rfl rfl (hb hby d3_15) _ k)
                  have K1095 : ∀ t, Steps p.tables e below (s₁.setTop (mkF m 4 #[.val (.ref a1), .val (.int (4 : Int32)), .val (.int (5 : Int32)), .val (.int q1), .unset, .unset] [])) t → Steps p.tables e below G t := by
                    intro t k
                    refine K1094 t ?_
                    show Steps p.tables e below (s₁.setTop (mkF m 16 #[.val (.ref a1), .val (.int (4 : Int32)), .val (.int (5 : Int32)), .val (.int (1 : Int32)), .unset, .unset] [(.int q1)])) _
                    refine XS.istoreN X0.here hx rfl (hb hby d3_16) rfl (l' := #[.val (.ref a1), .val (.int (4 : Int32)), .val (.int (5 : Int32)), .val (.int q1), .unset, .unset]) rfl ?_
                    refine XS.goto X0.here hx rfl (pc0 := 17) (pc' := 4) rfl (hb hby d3_17) (by decide) (by decide) ?_
                    show Steps p.tables e below (s₁.setTop (mkF m 4 #[.val (.ref a1), .val (.int (4 : Int32)), .val (.int (5 : Int32)), .val (.int q1), .unset, .unset] [])) _
                    exact k
                  obtain rfl := own_lt1 hc1045 hq1
                  · have K1096 : ∀ t, Steps p.tables e below (s₁.setTop (mkF m 6 #[.val (.ref a1), .val (.int (4 : Int32)), .val (.int (5 : Int32)), .val (.int (0 : Int32)), .unset, .unset] [(.int (0 : Int32)), (.ref a1)])) t → Steps p.tables e below G t := by
                      intro t k
                      refine K1095 t ?_
                      show Steps p.tables e below (s₁.setTop (mkF m 4 #[.val (.ref a1), .val (.int (4 : Int32)), .val (.int (5 : Int32)), .val (.int (0 : Int32)), .unset, .unset] [])) _
                      refine XS.aloadN X0.here hx rfl (hb hby d3_4) rfl rfl ?_
                      refine XS.iloadN X0.here hx rfl (hb hby d3_5) rfl ?_
                      show Steps p.tables e below (s₁.setTop (mkF m 6 #[.val (.ref a1), .val (.int (4 : Int32)), .val (.int (5 : Int32)), .val (.int (0 : Int32)), .unset, .unset] [(.int (0 : Int32)), (.ref a1)])) _
                      exact k
                    obtain ⟨cl1097, Ar1097, qc1097, S1097, M1097, Ha1097, Ga1097⟩ := id V1
                    have hin1097 : ¬ ((0 : Int32) < 0 ∨ cl1097.slots.size ≤ ((0 : Int32)).toNatClampNeg) := inb_of S1097 ⟨by decide, by decide⟩
                    have hat1097 : cl1097.slots[((0 : Int32)).toNatClampNeg]? = some (.int q0) := Ha1097.at hin1097 rfl
                    have K1098 : ∀ t, Steps p.tables e below (s₁.setTop (mkF m 7 #[.val (.ref a1), .val (.int (4 : Int32)), .val (.int (5 : Int32)), .val (.int (0 : Int32)), .unset, .unset] [(.int q0)])) t → Steps p.tables e below G t := fun t k => K1096 t (X0.iaload hx (j := (0 : Int32)) (v := (.int q0)) (by rw [e0]; exact Ar1097.1) (State.isArrayOf_alike hZ.alike Ar1097.2.1) Ar1097.2.2 hin1097 hat1097 (g := (mkF m 6 #[.val (.ref a1), .val (.int (4 : Int32)), .val (.int (5 : Int32)), .val (.int (0 : Int32)), .unset, .unset] [(.int (0 : Int32)), (.ref a1)])) rfl rfl (hb hby d3_6) _ k)
                    have K1099 : ∀ t, Steps p.tables e below (s₁.setTop (mkF m 21 #[.val (.ref a1), .val (.int (4 : Int32)), .val (.int (5 : Int32)), .val (.int (0 : Int32)), .unset, .unset] [(.int (5 : Int32))])) t → Steps p.tables e below G t := by
                      intro t k
                      refine K1098 t ?_
                      show Steps p.tables e below (s₁.setTop (mkF m 7 #[.val (.ref a1), .val (.int (4 : Int32)), .val (.int (5 : Int32)), .val (.int (0 : Int32)), .unset, .unset] [(.int q0)])) _
                      refine XS.ifYes X0.here hx rfl (pc0 := 7) (pc' := 20) rfl (hb hby d3_7) rfl ((if0 _ _).trans (tlt hq0).1) (by decide) (by decide) ?_
                      refine XS.iloadN X0.here hx rfl (hb hby d3_20) rfl ?_
                      show Steps p.tables e below (s₁.setTop (mkF m 21 #[.val (.ref a1), .val (.int (4 : Int32)), .val (.int (5 : Int32)), .val (.int (0 : Int32)), .unset, .unset] [(.int (5 : Int32))])) _
                      exact k
                    obtain ⟨T1100, h1100, kn1100, X1100, e1100, E1100, A1100, st1100⟩ := newP X0 hx hZ (hw _ (List.mem_of_getElem? (i := 8) rfl)) e0 (g := (mkF m 21 #[.val (.ref a1), .val (.int (4 : Int32)), .val (.int (5 : Int32)), .val (.int (0 : Int32)), .unset, .unset] [(.int (5 : Int32))])) rfl (hb hby d3_21) rfl (by decide) (cap := 5) (by decide) (by decide) (by decide) (by decide)
                    obtain ⟨b1100, g1100⟩ : ∃ z, z = h0.size := ⟨_, rfl⟩
                    rw [← g1100] at A1100 st1100
                    have ne_a1_b1100 : a1 ≠ b1100 := Nat.ne_of_lt (Nat.lt_of_lt_of_le V1.lt (Nat.le_of_eq g1100.symm))
                    have g_b1100 : n0 ≤ b1100 := Nat.le_trans Z0 (Nat.le_of_eq g1100.symm)
                    have sz_b1100 : h0.size ≤ b1100 := Nat.le_trans KP0.1 (Nat.le_of_eq g1100.symm)
                    have f1101 := V1.ext E1100
                    have Z1102 : n0 ≤ h1100.size := Nat.le_trans Z0 E1100.1
                    have KP1103 : Keep h0 h1100 [] := KP0.ext E1100
                    have K1104 : ∀ t, Steps p.tables e below (T1100.setTop (mkF m 23 #[.val (.ref a1), .val (.int (4 : Int32)), .val (.int (5 : Int32)), .val (.int (0 : Int32)), .unset, .unset] [(.ref b1100)])) t → Steps p.tables e below G t := fun t k => K1099 t (st1100 t k)
                    have V1100 : Arv Z h1100 b1100 kn1100 .int (5 : Int32) [(.int (0 : Int32)), (.int (0 : Int32)), (.int (0 : Int32)), (.int (0 : Int32)), (.int (0 : Int32))] (.int (0 : Int32)) := (Arv.new A1100 (by decide)).pad (pad_rep [] (.int (0 : Int32)) 5)
                    have K1105 : ∀ t, Steps p.tables e below (T1100.setTop (mkF m 42 #[.val (.ref a1), .val (.int (4 : Int32)), .val (.int (5 : Int32)), .val (.ref b1100), .val (.int (4 : Int32)), .val (.int (4 : Int32))] [(.int (4 : Int32)), (.int (4 : Int32)), (.ref b1100)])) t → Steps p.tables e below G t := by
                      intro t k
                      refine K1104 t ?_
                      show Steps p.tables e below (T1100.setTop (mkF m 23 #[.val (.ref a1), .val (.int (4 : Int32)), .val (.int (5 : Int32)), .val (.int (0 : Int32)), .unset, .unset] [(.ref b1100)])) _
                      refine XS.astoreN X1100.here hx rfl (hb hby d3_23) rfl rfl (l' := #[.val (.ref a1), .val (.int (4 : Int32)), .val (.int (5 : Int32)), .val (.ref b1100), .unset, .unset]) rfl ?_
                      refine XS.iloadN X1100.here hx rfl (hb hby d3_24) rfl ?_
                      refine XS.istore X1100.here hx rfl (hb hby d3_25) rfl (l' := #[.val (.ref a1), .val (.int (4 : Int32)), .val (.int (5 : Int32)), .val (.ref b1100), .val (.int (4 : Int32)), .unset]) rfl ?_
                      refine XS.iloadN X1100.here hx rfl (hb hby d3_27) rfl ?_
                      show Steps p.tables e below (T1100.setTop (mkF m 28 #[.val (.ref a1), .val (.int (4 : Int32)), .val (.int (5 : Int32)), .val (.ref b1100), .val (.int (4 : Int32)), .unset] [(.int (5 : Int32))])) _
                      refine XS.iconst X1100.here hx rfl (hb hby d3_28) ?_
                      refine XS.isub X1100.here hx rfl (hb hby d3_29) rfl ?_
                      refine XS.istore X1100.here hx rfl (hb hby d3_30) rfl (l' := #[.val (.ref a1), .val (.int (4 : Int32)), .val (.int (5 : Int32)), .val (.ref b1100), .val (.int (4 : Int32)), .val (.int (4 : Int32))]) rfl ?_
                      refine XS.iload X1100.here hx rfl (hb hby d3_32) rfl ?_
                      show Steps p.tables e below (T1100.setTop (mkF m 34 #[.val (.ref a1), .val (.int (4 : Int32)), .val (.int (5 : Int32)), .val (.ref b1100), .val (.int (4 : Int32)), .val (.int (4 : Int32))] [(.int (4 : Int32))])) _
                      refine XS.ifNo X1100.here hx rfl (hb hby d3_34) rfl ((if0 _ _).trans (flt (by decide)).1) ?_
                      refine XS.aloadN X1100.here hx rfl (hb hby d3_37) rfl rfl ?_
                      refine XS.iload X1100.here hx rfl (hb hby d3_38) rfl ?_
                      refine XS.iload X1100.here hx rfl (hb hby d3_40) rfl ?_
                      show Steps p.tables e below (T1100.setTop (mkF m 42 #[.val (.ref a1), .val (.int (4 : Int32)), .val (.int (5 : Int32)), .val (.ref b1100), .val (.int (4 : Int32)), .val (.int (4 : Int32))] [(.int (4 : Int32)), (.int (4 : Int32)), (.ref b1100)])) _
                      exact k
                    obtain ⟨cl1106, Ar1106, qc1106, S1106, M1106, Ha1106, Ga1106⟩ := id V1100
                    have hin1106 : ¬ ((4 : Int32) < 0 ∨ cl1106.slots.size ≤ ((4 : Int32)).toNatClampNeg) := inb_of S1106 ⟨by decide, by decide⟩
                    obtain ⟨T1106, h1106, X1106, e1106, W1106, st1106⟩ := stI X1100 hx hZ e1100 Ar1106 (j := (4 : Int32)) hin1106 (g := (mkF m 42 #[.val (.ref a1), .val (.int (4 : Int32)), .val (.int (5 : Int32)), .val (.ref b1100), .val (.int (4 : Int32)), .val (.int (4 : Int32))] [(.int (4 : Int32)), (.int (4 : Int32)), (.ref b1100)])) rfl rfl (hb hby d3_42)
                    have V1106 : Arv Z h1106 b1100 kn1100 .int (5 : Int32) [(.int (0 : Int32)), (.int (0 : Int32)), (.int (0 : Int32)), (.int (0 : Int32)), (.int (4 : Int32))] (.int (0 : Int32)) := Arv.set Ar1106 qc1106 S1106 M1106 Ha1106 Ga1106 rfl W1106 4 rfl (Nat.le_of_ble_eq_true rfl)
                    have K1107 : ∀ t, Steps p.tables e below (T1106.setTop (mkF m 43 #[.val (.ref a1), .val (.int (4 : Int32)), .val (.int (5 : Int32)), .val (.ref b1100), .val (.int (4 : Int32)), .val (.int (4 : Int32))] [])) t → Steps p.tables e below G t := fun t k => K1105 t (st1106 t k)
                    have f1108 := f1101.other W1106 ne_a1_b1100
                    have Z1109 : n0 ≤ h1106.size := Nat.le_trans Z1102 (Keep.of_wr W1106).1
                    have KP1110 : Keep h0 h1106 [] := KP1103.wr W1106 (Or.inr sz_b1100)
                    have N1111 := Fr.snoc X1106 N0 g_b1100
                    have K1112 : ∀ t, Steps p.tables e below (T1106.setTop (mkF m 46 #[.val (.ref a1), .val (.int (4 : Int32)), .val (.int (5 : Int32)), .val (.ref b1100), .val (.int (4 : Int32)), .val (.int (4 : Int32))] [(.int (4 : Int32)), (.ref a1)])) t → Steps p.tables e below G t := by
                      intro t k
                      refine K1107 t ?_
                      show Steps p.tables e below (T1106.setTop (mkF m 43 #[.val (.ref a1), .val (.int (4 : Int32)), .val (.int (5 : Int32)), .val (.ref b1100), .val (.int (4 : Int32)), .val (.int (4 : Int32))] [])) _
                      refine XS.aloadN X1106.here hx rfl (hb hby d3_43) rfl rfl ?_
                      refine XS.iload X1106.here hx rfl (hb hby d3_44) rfl ?_
                      show Steps p.tables e below (T1106.setTop (mkF m 46 #[.val (.ref a1), .val (.int (4 : Int32)), .val (.int (5 : Int32)), .val (.ref b1100), .val (.int (4 : Int32)), .val (.int (4 : Int32))] [(.int (4 : Int32)), (.ref a1)])) _
                      exact k
                    obtain ⟨cl1113, Ar1113, qc1113, S1113, M1113, Ha1113, Ga1113⟩ := id f1108
                    have hin1113 : ¬ ((4 : Int32) < 0 ∨ cl1113.slots.size ≤ ((4 : Int32)).toNatClampNeg) := inb_of S1113 ⟨by decide, by decide⟩
                    have hat1113 : cl1113.slots[((4 : Int32)).toNatClampNeg]? = some (.int (3 : Int32)) := Ha1113.at hin1113 rfl
                    have K1114 : ∀ t, Steps p.tables e below (T1106.setTop (mkF m 47 #[.val (.ref a1), .val (.int (4 : Int32)), .val (.int (5 : Int32)), .val (.ref b1100), .val (.int (4 : Int32)), .val (.int (4 : Int32))] [(.int (3 : Int32))])) t → Steps p.tables e below G t := fun t k => K1112 t (X1106.iaload hx (j := (4 : Int32)) (v := (.int (3 : Int32))) (by rw [e1106]; exact Ar1113.1) (State.isArrayOf_alike hZ.alike Ar1113.2.1) Ar1113.2.2 hin1113 hat1113 (g := (mkF m 46 #[.val (.ref a1), .val (.int (4 : Int32)), .val (.int (5 : Int32)), .val (.ref b1100), .val (.int (4 : Int32)), .val (.int (4 : Int32))] [(.int (4 : Int32)), (.ref a1)])) rfl rfl (hb hby d3_46) _ k)
                    have K1115 : ∀ t, Steps p.tables e below (T1106.setTop (mkF m 42 #[.val (.ref a1), .val (.int (4 : Int32)), .val (.int (5 : Int32)), .val (.ref b1100), .val (.int (3 : Int32)), .val (.int (3 : Int32))] [(.int (3 : Int32)), (.int (3 : Int32)), (.ref b1100)])) t → Steps p.tables e below G t := by
                      intro t k
                      refine K1114 t ?_
                      show Steps p.tables e below (T1106.setTop (mkF m 47 #[.val (.ref a1), .val (.int (4 : Int32)), .val (.int (5 : Int32)), .val (.ref b1100), .val (.int (4 : Int32)), .val (.int (4 : Int32))] [(.int (3 : Int32))])) _
                      refine XS.istore X1106.here hx rfl (hb hby d3_47) rfl (l' := #[.val (.ref a1), .val (.int (4 : Int32)), .val (.int (5 : Int32)), .val (.ref b1100), .val (.int (3 : Int32)), .val (.int (4 : Int32))]) rfl ?_
                      refine XS.iinc X1106.here hx rfl (hb hby d3_49) rfl (l' := #[.val (.ref a1), .val (.int (4 : Int32)), .val (.int (5 : Int32)), .val (.ref b1100), .val (.int (3 : Int32)), .val (.int (3 : Int32))]) rfl ?_
                      refine XS.goto X1106.here hx rfl (pc0 := 52) (pc' := 32) rfl (hb hby d3_52) (by decide) (by decide) ?_
                      refine XS.iload X1106.here hx rfl (hb hby d3_32) rfl ?_
                      show Steps p.tables e below (T1106.setTop (mkF m 34 #[.val (.ref a1), .val (.int (4 : Int32)), .val (.int (5 : Int32)), .val (.ref b1100), .val (.int (3 : Int32)), .val (.int (3 : Int32))] [(.int (3 : Int32))])) _
                      refine XS.ifNo X1106.here hx rfl (hb hby d3_34) rfl ((if0 _ _).trans (flt (by decide)).1) ?_
                      refine XS.aloadN X1106.here hx rfl (hb hby d3_37) rfl rfl ?_
                      refine XS.iload X1106.here hx rfl (hb hby d3_38) rfl ?_
                      refine XS.iload X1106.here hx rfl (hb hby d3_40) rfl ?_
                      show Steps p.tables e below (T1106.setTop (mkF m 42 #[.val (.ref a1), .val (.int (4 : Int32)), .val (.int (5 : Int32)), .val (.ref b1100), .val (.int (3 : Int32)), .val (.int (3 : Int32))] [(.int (3 : Int32)), (.int (3 : Int32)), (.ref b1100)])) _
                      exact k
                    obtain ⟨cl1116, Ar1116, qc1116, S1116, M1116, Ha1116, Ga1116⟩ := id V1106
                    have hin1116 : ¬ ((3 : Int32) < 0 ∨ cl1116.slots.size ≤ ((3 : Int32)).toNatClampNeg) := inb_of S1116 ⟨by decide, by decide⟩
                    obtain ⟨T1116, h1116, X1116, e1116, W1116, st1116⟩ := stI X1106 hx hZ e1106 Ar1116 (j := (3 : Int32)) hin1116 (g := (mkF m 42 #[.val (.ref a1), .val (.int (4 : Int32)), .val (.int (5 : Int32)), .val (.ref b1100), .val (.int (3 : Int32)), .val (.int (3 : Int32))] [(.int (3 : Int32)), (.int (3 : Int32)), (.ref b1100)])) rfl rfl (hb hby d3_42)
                    have V1116 : Arv Z h1116 b1100 kn1100 .int (5 : Int32) [(.int (0 : Int32)), (.int (0 : Int32)), (.int (0 : Int32)), (.int (3 : Int32)), (.int (4 : Int32))] (.int (0 : Int32)) := Arv.set Ar1116 qc1116 S1116 M1116 Ha1116 Ga1116 rfl W1116 3 rfl (Nat.le_of_ble_eq_true rfl)
                    have K1117 : ∀ t, Steps p.tables e below (T1116.setTop (mkF m 43 #[.val (.ref a1), .val (.int (4 : Int32)), .val (.int (5 : Int32)), .val (.ref b1100), .val (.int (3 : Int32)), .val (.int (3 : Int32))] [])) t → Steps p.tables e below G t := fun t k => K1115 t (st1116 t k)
                    have f1118 := f1108.other W1116 ne_a1_b1100
                    have Z1119 : n0 ≤ h1116.size := Nat.le_trans Z1109 (Keep.of_wr W1116).1
                    have KP1120 : Keep h0 h1116 [] := KP1110.wr W1116 (Or.inr sz_b1100)
                    have N1121 := Fr.snoc X1116 N1111 g_b1100
                    have K1122 : ∀ t, Steps p.tables e below (T1116.setTop (mkF m 46 #[.val (.ref a1), .val (.int (4 : Int32)), .val (.int (5 : Int32)), .val (.ref b1100), .val (.int (3 : Int32)), .val (.int (3 : Int32))] [(.int (3 : Int32)), (.ref a1)])) t → Steps p.tables e below G t := by
                      intro t k
                      refine K1117 t ?_
                      show Steps p.tables e below (T1116.setTop (mkF m 43 #[.val (.ref a1), .val (.int (4 : Int32)), .val (.int (5 : Int32)), .val (.ref b1100), .val (.int (3 : Int32)), .val (.int (3 : Int32))] [])) _
                      refine XS.aloadN X1116.here hx rfl (hb hby d3_43) rfl rfl ?_
                      refine XS.iload X1116.here hx rfl (hb hby d3_44) rfl ?_
                      show Steps p.tables e below (T1116.setTop (mkF m 46 #[.val (.ref a1), .val (.int (4 : Int32)), .val (.int (5 : Int32)), .val (.ref b1100), .val (.int (3 : Int32)), .val (.int (3 : Int32))] [(.int (3 : Int32)), (.ref a1)])) _
                      exact k
                    obtain ⟨cl1123, Ar1123, qc1123, S1123, M1123, Ha1123, Ga1123⟩ := id f1118
                    have hin1123 : ¬ ((3 : Int32) < 0 ∨ cl1123.slots.size ≤ ((3 : Int32)).toNatClampNeg) := inb_of S1123 ⟨by decide, by decide⟩
                    have hat1123 : cl1123.slots[((3 : Int32)).toNatClampNeg]? = some (.int (2 : Int32)) := Ha1123.at hin1123 rfl
                    have K1124 : ∀ t, Steps p.tables e below (T1116.setTop (mkF m 47 #[.val (.ref a1), .val (.int (4 : Int32)), .val (.int (5 : Int32)), .val (.ref b1100), .val (.int (3 : Int32)), .val (.int (3 : Int32))] [(.int (2 : Int32))])) t → Steps p.tables e below G t := fun t k => K1122 t (X1116.iaload hx (j := (3 : Int32)) (v := (.int (2 : Int32))) (by rw [e1116]; exact Ar1123.1) (State.isArrayOf_alike hZ.alike Ar1123.2.1) Ar1123.2.2 hin1123 hat1123 (g := (mkF m 46 #[.val (.ref a1), .val (.int (4 : Int32)), .val (.int (5 : Int32)), .val (.ref b1100), .val (.int (3 : Int32)), .val (.int (3 : Int32))] [(.int (3 : Int32)), (.ref a1)])) rfl rfl (hb hby d3_46) _ k)
                    have K1125 : ∀ t, Steps p.tables e below (T1116.setTop (mkF m 42 #[.val (.ref a1), .val (.int (4 : Int32)), .val (.int (5 : Int32)), .val (.ref b1100), .val (.int (2 : Int32)), .val (.int (2 : Int32))] [(.int (2 : Int32)), (.int (2 : Int32)), (.ref b1100)])) t → Steps p.tables e below G t := by
                      intro t k
                      refine K1124 t ?_
                      show Steps p.tables e below (T1116.setTop (mkF m 47 #[.val (.ref a1), .val (.int (4 : Int32)), .val (.int (5 : Int32)), .val (.ref b1100), .val (.int (3 : Int32)), .val (.int (3 : Int32))] [(.int (2 : Int32))])) _
                      refine XS.istore X1116.here hx rfl (hb hby d3_47) rfl (l' := #[.val (.ref a1), .val (.int (4 : Int32)), .val (.int (5 : Int32)), .val (.ref b1100), .val (.int (2 : Int32)), .val (.int (3 : Int32))]) rfl ?_
                      refine XS.iinc X1116.here hx rfl (hb hby d3_49) rfl (l' := #[.val (.ref a1), .val (.int (4 : Int32)), .val (.int (5 : Int32)), .val (.ref b1100), .val (.int (2 : Int32)), .val (.int (2 : Int32))]) rfl ?_
                      refine XS.goto X1116.here hx rfl (pc0 := 52) (pc' := 32) rfl (hb hby d3_52) (by decide) (by decide) ?_
                      refine XS.iload X1116.here hx rfl (hb hby d3_32) rfl ?_
                      show Steps p.tables e below (T1116.setTop (mkF m 34 #[.val (.ref a1), .val (.int (4 : Int32)), .val (.int (5 : Int32)), .val (.ref b1100), .val (.int (2 : Int32)), .val (.int (2 : Int32))] [(.int (2 : Int32))])) _
                      refine XS.ifNo X1116.here hx rfl (hb hby d3_34) rfl ((if0 _ _).trans (flt (by decide)).1) ?_
                      refine XS.aloadN X1116.here hx rfl (hb hby d3_37) rfl rfl ?_
                      refine XS.iload X1116.here hx rfl (hb hby d3_38) rfl ?_
                      refine XS.iload X1116.here hx rfl (hb hby d3_40) rfl ?_
                      show Steps p.tables e below (T1116.setTop (mkF m 42 #[.val (.ref a1), .val (.int (4 : Int32)), .val (.int (5 : Int32)), .val (.ref b1100), .val (.int (2 : Int32)), .val (.int (2 : Int32))] [(.int (2 : Int32)), (.int (2 : Int32)), (.ref b1100)])) _
                      exact k
                    obtain ⟨cl1126, Ar1126, qc1126, S1126, M1126, Ha1126, Ga1126⟩ := id V1116
                    have hin1126 : ¬ ((2 : Int32) < 0 ∨ cl1126.slots.size ≤ ((2 : Int32)).toNatClampNeg) := inb_of S1126 ⟨by decide, by decide⟩
                    obtain ⟨T1126, h1126, X1126, e1126, W1126, st1126⟩ := stI X1116 hx hZ e1116 Ar1126 (j := (2 : Int32)) hin1126 (g := (mkF m 42 #[.val (.ref a1), .val (.int (4 : Int32)), .val (.int (5 : Int32)), .val (.ref b1100), .val (.int (2 : Int32)), .val (.int (2 : Int32))] [(.int (2 : Int32)), (.int (2 : Int32)), (.ref b1100)])) rfl rfl (hb hby d3_42)
                    have V1126 : Arv Z h1126 b1100 kn1100 .int (5 : Int32) [(.int (0 : Int32)), (.int (0 : Int32)), (.int (2 : Int32)), (.int (3 : Int32)), (.int (4 : Int32))] (.int (0 : Int32)) := Arv.set Ar1126 qc1126 S1126 M1126 Ha1126 Ga1126 rfl W1126 2 rfl (Nat.le_of_ble_eq_true rfl)
                    have K1127 : ∀ t, Steps p.tables e below (T1126.setTop (mkF m 43 #[.val (.ref a1), .val (.int (4 : Int32)), .val (.int (5 : Int32)), .val (.ref b1100), .val (.int (2 : Int32)), .val (.int (2 : Int32))] [])) t → Steps p.tables e below G t := fun t k => K1125 t (st1126 t k)
                    have f1128 := f1118.other W1126 ne_a1_b1100
                    have Z1129 : n0 ≤ h1126.size := Nat.le_trans Z1119 (Keep.of_wr W1126).1
                    have KP1130 : Keep h0 h1126 [] := KP1120.wr W1126 (Or.inr sz_b1100)
                    have N1131 := Fr.snoc X1126 N1121 g_b1100
                    have K1132 : ∀ t, Steps p.tables e below (T1126.setTop (mkF m 46 #[.val (.ref a1), .val (.int (4 : Int32)), .val (.int (5 : Int32)), .val (.ref b1100), .val (.int (2 : Int32)), .val (.int (2 : Int32))] [(.int (2 : Int32)), (.ref a1)])) t → Steps p.tables e below G t := by
                      intro t k
                      refine K1127 t ?_
                      show Steps p.tables e below (T1126.setTop (mkF m 43 #[.val (.ref a1), .val (.int (4 : Int32)), .val (.int (5 : Int32)), .val (.ref b1100), .val (.int (2 : Int32)), .val (.int (2 : Int32))] [])) _
                      refine XS.aloadN X1126.here hx rfl (hb hby d3_43) rfl rfl ?_
                      refine XS.iload X1126.here hx rfl (hb hby d3_44) rfl ?_
                      show Steps p.tables e below (T1126.setTop (mkF m 46 #[.val (.ref a1), .val (.int (4 : Int32)), .val (.int (5 : Int32)), .val (.ref b1100), .val (.int (2 : Int32)), .val (.int (2 : Int32))] [(.int (2 : Int32)), (.ref a1)])) _
                      exact k
                    obtain ⟨cl1133, Ar1133, qc1133, S1133, M1133, Ha1133, Ga1133⟩ := id f1128
                    have hin1133 : ¬ ((2 : Int32) < 0 ∨ cl1133.slots.size ≤ ((2 : Int32)).toNatClampNeg) := inb_of S1133 ⟨by decide, by decide⟩
                    have hat1133 : cl1133.slots[((2 : Int32)).toNatClampNeg]? = some (.int (1 : Int32)) := Ha1133.at hin1133 rfl
                    have K1134 : ∀ t, Steps p.tables e below (T1126.setTop (mkF m 47 #[.val (.ref a1), .val (.int (4 : Int32)), .val (.int (5 : Int32)), .val (.ref b1100), .val (.int (2 : Int32)), .val (.int (2 : Int32))] [(.int (1 : Int32))])) t → Steps p.tables e below G t := fun t k => K1132 t (X1126.iaload hx (j := (2 : Int32)) (v := (.int (1 : Int32))) (by rw [e1126]; exact Ar1133.1) (State.isArrayOf_alike hZ.alike Ar1133.2.1) Ar1133.2.2 hin1133 hat1133 (g := (mkF m 46 #[.val (.ref a1), .val (.int (4 : Int32)), .val (.int (5 : Int32)), .val (.ref b1100), .val (.int (2 : Int32)), .val (.int (2 : Int32))] [(.int (2 : Int32)), (.ref a1)])) rfl rfl (hb hby d3_46) _ k)
                    have K1135 : ∀ t, Steps p.tables e below (T1126.setTop (mkF m 42 #[.val (.ref a1), .val (.int (4 : Int32)), .val (.int (5 : Int32)), .val (.ref b1100), .val (.int (1 : Int32)), .val (.int (1 : Int32))] [(.int (1 : Int32)), (.int (1 : Int32)), (.ref b1100)])) t → Steps p.tables e below G t := by
                      intro t k
                      refine K1134 t ?_
                      show Steps p.tables e below (T1126.setTop (mkF m 47 #[.val (.ref a1), .val (.int (4 : Int32)), .val (.int (5 : Int32)), .val (.ref b1100), .val (.int (2 : Int32)), .val (.int (2 : Int32))] [(.int (1 : Int32))])) _
                      refine XS.istore X1126.here hx rfl (hb hby d3_47) rfl (l' := #[.val (.ref a1), .val (.int (4 : Int32)), .val (.int (5 : Int32)), .val (.ref b1100), .val (.int (1 : Int32)), .val (.int (2 : Int32))]) rfl ?_
                      refine XS.iinc X1126.here hx rfl (hb hby d3_49) rfl (l' := #[.val (.ref a1), .val (.int (4 : Int32)), .val (.int (5 : Int32)), .val (.ref b1100), .val (.int (1 : Int32)), .val (.int (1 : Int32))]) rfl ?_
                      refine XS.goto X1126.here hx rfl (pc0 := 52) (pc' := 32) rfl (hb hby d3_52) (by decide) (by decide) ?_
                      refine XS.iload X1126.here hx rfl (hb hby d3_32) rfl ?_
                      show Steps p.tables e below (T1126.setTop (mkF m 34 #[.val (.ref a1), .val (.int (4 : Int32)), .val (.int (5 : Int32)), .val (.ref b1100), .val (.int (1 : Int32)), .val (.int (1 : Int32))] [(.int (1 : Int32))])) _
                      refine XS.ifNo X1126.here hx rfl (hb hby d3_34) rfl ((if0 _ _).trans (flt (by decide)).1) ?_
                      refine XS.aloadN X1126.here hx rfl (hb hby d3_37) rfl rfl ?_
                      refine XS.iload X1126.here hx rfl (hb hby d3_38) rfl ?_
                      refine XS.iload X1126.here hx rfl (hb hby d3_40) rfl ?_
                      show Steps p.tables e below (T1126.setTop (mkF m 42 #[.val (.ref a1), .val (.int (4 : Int32)), .val (.int (5 : Int32)), .val (.ref b1100), .val (.int (1 : Int32)), .val (.int (1 : Int32))] [(.int (1 : Int32)), (.int (1 : Int32)), (.ref b1100)])) _
                      exact k
                    obtain ⟨cl1136, Ar1136, qc1136, S1136, M1136, Ha1136, Ga1136⟩ := id V1126
                    have hin1136 : ¬ ((1 : Int32) < 0 ∨ cl1136.slots.size ≤ ((1 : Int32)).toNatClampNeg) := inb_of S1136 ⟨by decide, by decide⟩
                    obtain ⟨T1136, h1136, X1136, e1136, W1136, st1136⟩ := stI X1126 hx hZ e1126 Ar1136 (j := (1 : Int32)) hin1136 (g := (mkF m 42 #[.val (.ref a1), .val (.int (4 : Int32)), .val (.int (5 : Int32)), .val (.ref b1100), .val (.int (1 : Int32)), .val (.int (1 : Int32))] [(.int (1 : Int32)), (.int (1 : Int32)), (.ref b1100)])) rfl rfl (hb hby d3_42)
                    have V1136 : Arv Z h1136 b1100 kn1100 .int (5 : Int32) [(.int (0 : Int32)), (.int (1 : Int32)), (.int (2 : Int32)), (.int (3 : Int32)), (.int (4 : Int32))] (.int (0 : Int32)) := Arv.set Ar1136 qc1136 S1136 M1136 Ha1136 Ga1136 rfl W1136 1 rfl (Nat.le_of_ble_eq_true rfl)
                    have K1137 : ∀ t, Steps p.tables e below (T1136.setTop (mkF m 43 #[.val (.ref a1), .val (.int (4 : Int32)), .val (.int (5 : Int32)), .val (.ref b1100), .val (.int (1 : Int32)), .val (.int (1 : Int32))] [])) t → Steps p.tables e below G t := fun t k => K1135 t (st1136 t k)
                    have f1138 := f1128.other W1136 ne_a1_b1100
                    have Z1139 : n0 ≤ h1136.size := Nat.le_trans Z1129 (Keep.of_wr W1136).1
                    have KP1140 : Keep h0 h1136 [] := KP1130.wr W1136 (Or.inr sz_b1100)
                    have N1141 := Fr.snoc X1136 N1131 g_b1100
                    have K1142 : ∀ t, Steps p.tables e below (T1136.setTop (mkF m 46 #[.val (.ref a1), .val (.int (4 : Int32)), .val (.int (5 : Int32)), .val (.ref b1100), .val (.int (1 : Int32)), .val (.int (1 : Int32))] [(.int (1 : Int32)), (.ref a1)])) t → Steps p.tables e below G t := by
                      intro t k
                      refine K1137 t ?_
                      show Steps p.tables e below (T1136.setTop (mkF m 43 #[.val (.ref a1), .val (.int (4 : Int32)), .val (.int (5 : Int32)), .val (.ref b1100), .val (.int (1 : Int32)), .val (.int (1 : Int32))] [])) _
                      refine XS.aloadN X1136.here hx rfl (hb hby d3_43) rfl rfl ?_
                      refine XS.iload X1136.here hx rfl (hb hby d3_44) rfl ?_
                      show Steps p.tables e below (T1136.setTop (mkF m 46 #[.val (.ref a1), .val (.int (4 : Int32)), .val (.int (5 : Int32)), .val (.ref b1100), .val (.int (1 : Int32)), .val (.int (1 : Int32))] [(.int (1 : Int32)), (.ref a1)])) _
                      exact k
                    obtain ⟨cl1143, Ar1143, qc1143, S1143, M1143, Ha1143, Ga1143⟩ := id f1138
                    have hin1143 : ¬ ((1 : Int32) < 0 ∨ cl1143.slots.size ≤ ((1 : Int32)).toNatClampNeg) := inb_of S1143 ⟨by decide, by decide⟩
                    have hat1143 : cl1143.slots[((1 : Int32)).toNatClampNeg]? = some (.int (0 : Int32)) := Ha1143.at hin1143 rfl
                    have K1144 : ∀ t, Steps p.tables e below (T1136.setTop (mkF m 47 #[.val (.ref a1), .val (.int (4 : Int32)), .val (.int (5 : Int32)), .val (.ref b1100), .val (.int (1 : Int32)), .val (.int (1 : Int32))] [(.int (0 : Int32))])) t → Steps p.tables e below G t := fun t k => K1142 t (X1136.iaload hx (j := (1 : Int32)) (v := (.int (0 : Int32))) (by rw [e1136]; exact Ar1143.1) (State.isArrayOf_alike hZ.alike Ar1143.2.1) Ar1143.2.2 hin1143 hat1143 (g := (mkF m 46 #[.val (.ref a1), .val (.int (4 : Int32)), .val (.int (5 : Int32)), .val (.ref b1100), .val (.int (1 : Int32)), .val (.int (1 : Int32))] [(.int (1 : Int32)), (.ref a1)])) rfl rfl (hb hby d3_46) _ k)
                    have K1145 : ∀ t, Steps p.tables e below (T1136.setTop (mkF m 42 #[.val (.ref a1), .val (.int (4 : Int32)), .val (.int (5 : Int32)), .val (.ref b1100), .val (.int (0 : Int32)), .val (.int (0 : Int32))] [(.int (0 : Int32)), (.int (0 : Int32)), (.ref b1100)])) t → Steps p.tables e below G t := by
                      intro t k
                      refine K1144 t ?_
                      show Steps p.tables e below (T1136.setTop (mkF m 47 #[.val (.ref a1), .val (.int (4 : Int32)), .val (.int (5 : Int32)), .val (.ref b1100), .val (.int (1 : Int32)), .val (.int (1 : Int32))] [(.int (0 : Int32))])) _
                      refine XS.istore X1136.here hx rfl (hb hby d3_47) rfl (l' := #[.val (.ref a1), .val (.int (4 : Int32)), .val (.int (5 : Int32)), .val (.ref b1100), .val (.int (0 : Int32)), .val (.int (1 : Int32))]) rfl ?_
                      refine XS.iinc X1136.here hx rfl (hb hby d3_49) rfl (l' := #[.val (.ref a1), .val (.int (4 : Int32)), .val (.int (5 : Int32)), .val (.ref b1100), .val (.int (0 : Int32)), .val (.int (0 : Int32))]) rfl ?_
                      refine XS.goto X1136.here hx rfl (pc0 := 52) (pc' := 32) rfl (hb hby d3_52) (by decide) (by decide) ?_
                      refine XS.iload X1136.here hx rfl (hb hby d3_32) rfl ?_
                      show Steps p.tables e below (T1136.setTop (mkF m 34 #[.val (.ref a1), .val (.int (4 : Int32)), .val (.int (5 : Int32)), .val (.ref b1100), .val (.int (0 : Int32)), .val (.int (0 : Int32))] [(.int (0 : Int32))])) _
                      refine XS.ifNo X1136.here hx rfl (hb hby d3_34) rfl ((if0 _ _).trans (flt (by decide)).1) ?_
                      refine XS.aloadN X1136.here hx rfl (hb hby d3_37) rfl rfl ?_
                      refine XS.iload X1136.here hx rfl (hb hby d3_38) rfl ?_
                      refine XS.iload X1136.here hx rfl (hb hby d3_40) rfl ?_
                      show Steps p.tables e below (T1136.setTop (mkF m 42 #[.val (.ref a1), .val (.int (4 : Int32)), .val (.int (5 : Int32)), .val (.ref b1100), .val (.int (0 : Int32)), .val (.int (0 : Int32))] [(.int (0 : Int32)), (.int (0 : Int32)), (.ref b1100)])) _
                      exact k
                    obtain ⟨cl1146, Ar1146, qc1146, S1146, M1146, Ha1146, Ga1146⟩ := id V1136
                    have hin1146 : ¬ ((0 : Int32) < 0 ∨ cl1146.slots.size ≤ ((0 : Int32)).toNatClampNeg) := inb_of S1146 ⟨by decide, by decide⟩
                    obtain ⟨T1146, h1146, X1146, e1146, W1146, st1146⟩ := stI X1136 hx hZ e1136 Ar1146 (j := (0 : Int32)) hin1146 (g := (mkF m 42 #[.val (.ref a1), .val (.int (4 : Int32)), .val (.int (5 : Int32)), .val (.ref b1100), .val (.int (0 : Int32)), .val (.int (0 : Int32))] [(.int (0 : Int32)), (.int (0 : Int32)), (.ref b1100)])) rfl rfl (hb hby d3_42)
                    have V1146 : Arv Z h1146 b1100 kn1100 .int (5 : Int32) [(.int (0 : Int32)), (.int (1 : Int32)), (.int (2 : Int32)), (.int (3 : Int32)), (.int (4 : Int32))] (.int (0 : Int32)) := Arv.set Ar1146 qc1146 S1146 M1146 Ha1146 Ga1146 rfl W1146 0 rfl (Nat.le_of_ble_eq_true rfl)
                    have K1147 : ∀ t, Steps p.tables e below (T1146.setTop (mkF m 43 #[.val (.ref a1), .val (.int (4 : Int32)), .val (.int (5 : Int32)), .val (.ref b1100), .val (.int (0 : Int32)), .val (.int (0 : Int32))] [])) t → Steps p.tables e below G t := fun t k => K1145 t (st1146 t k)
                    have f1148 := f1138.other W1146 ne_a1_b1100
                    have Z1149 : n0 ≤ h1146.size := Nat.le_trans Z1139 (Keep.of_wr W1146).1
                    have KP1150 : Keep h0 h1146 [] := KP1140.wr W1146 (Or.inr sz_b1100)
                    have N1151 := Fr.snoc X1146 N1141 g_b1100
                    have K1152 : ∀ t, Steps p.tables e below (T1146.setTop (mkF m 46 #[.val (.ref a1), .val (.int (4 : Int32)), .val (.int (5 : Int32)), .val (.ref b1100), .val (.int (0 : Int32)), .val (.int (0 : Int32))] [(.int (0 : Int32)), (.ref a1)])) t → Steps p.tables e below G t := by
                      intro t k
                      refine K1147 t ?_
                      show Steps p.tables e below (T1146.setTop (mkF m 43 #[.val (.ref a1), .val (.int (4 : Int32)), .val (.int (5 : Int32)), .val (.ref b1100), .val (.int (0 : Int32)), .val (.int (0 : Int32))] [])) _
                      refine XS.aloadN X1146.here hx rfl (hb hby d3_43) rfl rfl ?_
                      refine XS.iload X1146.here hx rfl (hb hby d3_44) rfl ?_
                      show Steps p.tables e below (T1146.setTop (mkF m 46 #[.val (.ref a1), .val (.int (4 : Int32)), .val (.int (5 : Int32)), .val (.ref b1100), .val (.int (0 : Int32)), .val (.int (0 : Int32))] [(.int (0 : Int32)), (.ref a1)])) _
                      exact k
                    obtain ⟨cl1153, Ar1153, qc1153, S1153, M1153, Ha1153, Ga1153⟩ := id f1148
                    have hin1153 : ¬ ((0 : Int32) < 0 ∨ cl1153.slots.size ≤ ((0 : Int32)).toNatClampNeg) := inb_of S1153 ⟨by decide, by decide⟩
                    have hat1153 : cl1153.slots[((0 : Int32)).toNatClampNeg]? = some (.int q0) := Ha1153.at hin1153 rfl
                    have K1154 : ∀ t, Steps p.tables e below (T1146.setTop (mkF m 47 #[.val (.ref a1), .val (.int (4 : Int32)), .val (.int (5 : Int32)), .val (.ref b1100), .val (.int (0 : Int32)), .val (.int (0 : Int32))] [(.int q0)])) t → Steps p.tables e below G t := fun t k => K1152 t (X1146.iaload hx (j := (0 : Int32)) (v := (.int q0)) (by rw [e1146]; exact Ar1153.1) (State.isArrayOf_alike hZ.alike Ar1153.2.1) Ar1153.2.2 hin1153 hat1153 (g := (mkF m 46 #[.val (.ref a1), .val (.int (4 : Int32)), .val (.int (5 : Int32)), .val (.ref b1100), .val (.int (0 : Int32)), .val (.int (0 : Int32))] [(.int (0 : Int32)), (.ref a1)])) rfl rfl (hb hby d3_46) _ k)
                    obtain ⟨fs, hr, hrun, hended, hW, hsame⟩ := X1146.leave (v := some (.ref b1100)) (fun h => by rw [Bd.returns] at h; cases h)
                    have KF := K1154
                    rw [hG] at KF
                    refine ⟨_, _, KF _ ?_, hrun, hended, _, _, rfl, ?_, ⟨_, rfl⟩, hW, hsame.mono (by decide) (by decide)⟩
                    · show Steps p.tables e below (T1146.setTop (mkF m 47 #[.val (.ref a1), .val (.int (4 : Int32)), .val (.int (5 : Int32)), .val (.ref b1100), .val (.int (0 : Int32)), .val (.int (0 : Int32))] [(.int q0)])) _
                      refine XS.istore X1146.here hx rfl (hb hby d3_47) rfl (l' := #[.val (.ref a1), .val (.int (4 : Int32)), .val (.int (5 : Int32)), .val (.ref b1100), .val (.int q0), .val (.int (0 : Int32))]) rfl ?_
                      refine XS.iinc X1146.here hx rfl (hb hby d3_49) rfl (l' := #[.val (.ref a1), .val (.int (4 : Int32)), .val (.int (5 : Int32)), .val (.ref b1100), .val (.int q0), .val (.int (-1 : Int32))]) rfl ?_
                      refine XS.goto X1146.here hx rfl (pc0 := 52) (pc' := 32) rfl (hb hby d3_52) (by decide) (by decide) ?_
                      refine XS.iload X1146.here hx rfl (hb hby d3_32) rfl ?_
                      show Steps p.tables e below (T1146.setTop (mkF m 34 #[.val (.ref a1), .val (.int (4 : Int32)), .val (.int (5 : Int32)), .val (.ref b1100), .val (.int q0), .val (.int (-1 : Int32))] [(.int (-1 : Int32))])) _
                      refine XS.ifYes X1146.here hx rfl (pc0 := 34) (pc' := 55) rfl (hb hby d3_34) rfl ((if0 _ _).trans (tlt (by decide)).1) (by decide) (by decide) ?_
                      refine XS.aloadN X1146.here hx rfl (hb hby d3_55) rfl rfl ?_
                      show Steps p.tables e below (T1146.setTop (mkF m 56 #[.val (.ref a1), .val (.int (4 : Int32)), .val (.int (5 : Int32)), .val (.ref b1100), .val (.int q0), .val (.int (-1 : Int32))] [(.ref b1100)])) _
                      exact own_retA X1146 hx Bd.returns rfl rfl rfl (hb hby d3_56) hr
                    · show Q3 Z (4 : Int32) [(.int q0), (.int (0 : Int32)), (.int (1 : Int32)), (.int (2 : Int32)), (.int (3 : Int32))] h0 n0 _ T1146.heap _
                      rw [e1146]
                      exact ⟨_, _, _, _, rfl, N1151, KP1150, sz_b1100, V1146, ⟨by decide, by decide⟩, ⟨by decide, by decide⟩, rfl, Or.inr ⟨0, q0, 0, by decide, rfl, ⟨by decide, by decide⟩, rfl, Or.inl ⟨rfl, hq0⟩⟩, Or.inr ⟨1, 0, 0, by decide, rfl, ⟨by decide, by decide⟩, rfl, Or.inr ⟨by decide, ⟨by decide, by decide⟩, rfl, rfl⟩⟩, Or.inr ⟨2, 1, 1, by decide, rfl, ⟨by decide, by decide⟩, rfl, Or.inr ⟨by decide, ⟨by decide, by decide⟩, rfl, rfl⟩⟩, Or.inr ⟨3, 2, 2, by decide, rfl, ⟨by decide, by decide⟩, rfl, Or.inr ⟨by decide, ⟨by decide, by decide⟩, rfl, rfl⟩⟩, Or.inr ⟨4, 3, 3, by decide, rfl, ⟨by decide, by decide⟩, rfl, Or.inr ⟨by decide, ⟨by decide, by decide⟩, rfl, rfl⟩⟩⟩
def Q4 (a1 a2 : Addr) (p3 : Int32) (k1 k2 : ClassId) (z : Int32) (vs ws' : List Value) (h0 : Heap) (n0 : Nat) (v : Option Value) (h : Heap) (L : List Loc) : Prop := v = some (.int (1 : Int32)) ∧ Fr n0 L ∧ h = h0
theorem d4_0 : decode method_4_code 0 = .ok (.iload_n 2, 1) := by decide +kernel
theorem d4_1 : decode method_4_code 1 = .ok (.aload_n 0, 1) := by decide +kernel
theorem d4_2 : decode method_4_code 2 = .ok (.arraylength, 1) := by decide +kernel
theorem d4_3 : decode method_4_code 3 = .ok (.if_icmp .lt 5, 3) := by decide +kernel
theorem d4_6 : decode method_4_code 6 = .ok (.iconst 1, 1) := by decide +kernel
theorem d4_7 : decode method_4_code 7 = .ok (.ireturn, 1) := by decide +kernel
theorem d4_8 : decode method_4_code 8 = .ok (.aload_n 0, 1) := by decide +kernel
theorem d4_9 : decode method_4_code 9 = .ok (.iload_n 2, 1) := by decide +kernel
theorem d4_10 : decode method_4_code 10 = .ok (.iaload, 1) := by decide +kernel
theorem d4_11 : decode method_4_code 11 = .ok (.istore_n 3, 1) := by decide +kernel
theorem d4_12 : decode method_4_code 12 = .ok (.iload_n 3, 1) := by decide +kernel
theorem d4_13 : decode method_4_code 13 = .ok (.ifCond .lt 9, 3) := by decide +kernel
theorem d4_16 : decode method_4_code 16 = .ok (.iload_n 3, 1) := by decide +kernel
theorem d4_17 : decode method_4_code 17 = .ok (.aload_n 1, 1) := by decide +kernel
theorem d4_18 : decode method_4_code 18 = .ok (.arraylength, 1) := by decide +kernel
theorem d4_19 : decode method_4_code 19 = .ok (.if_icmp .lt 5, 3) := by decide +kernel
theorem d4_22 : decode method_4_code 22 = .ok (.iconst 0, 1) := by decide +kernel
theorem d4_23 : decode method_4_code 23 = .ok (.ireturn, 1) := by decide +kernel
theorem d4_24 : decode method_4_code 24 = .ok (.iload_n 2, 1) := by decide +kernel
theorem d4_25 : decode method_4_code 25 = .ok (.ifCond .ne 15, 3) := by decide +kernel
theorem d4_28 : decode method_4_code 28 = .ok (.aload_n 1, 1) := by decide +kernel
theorem d4_29 : decode method_4_code 29 = .ok (.iload_n 3, 1) := by decide +kernel
theorem d4_30 : decode method_4_code 30 = .ok (.iaload, 1) := by decide +kernel
theorem d4_31 : decode method_4_code 31 = .ok (.ifCond .ge 7, 3) := by decide +kernel
theorem d4_34 : decode method_4_code 34 = .ok (.iconst 1, 1) := by decide +kernel
theorem d4_35 : decode method_4_code 35 = .ok (.goto 4, 3) := by decide +kernel
theorem d4_38 : decode method_4_code 38 = .ok (.iconst 0, 1) := by decide +kernel
theorem d4_39 : decode method_4_code 39 = .ok (.ireturn, 1) := by decide +kernel
theorem d4_40 : decode method_4_code 40 = .ok (.aload_n 1, 1) := by decide +kernel
theorem d4_41 : decode method_4_code 41 = .ok (.iload_n 3, 1) := by decide +kernel
theorem d4_42 : decode method_4_code 42 = .ok (.iaload, 1) := by decide +kernel
theorem d4_43 : decode method_4_code 43 = .ok (.aload_n 0, 1) := by decide +kernel
theorem d4_44 : decode method_4_code 44 = .ok (.iload_n 2, 1) := by decide +kernel
theorem d4_45 : decode method_4_code 45 = .ok (.iconst 1, 1) := by decide +kernel
theorem d4_46 : decode method_4_code 46 = .ok (.isub, 1) := by decide +kernel
theorem d4_47 : decode method_4_code 47 = .ok (.iaload, 1) := by decide +kernel
theorem d4_48 : decode method_4_code 48 = .ok (.if_icmp .ne 7, 3) := by decide +kernel
theorem d4_51 : decode method_4_code 51 = .ok (.iconst 1, 1) := by decide +kernel
theorem d4_52 : decode method_4_code 52 = .ok (.goto 4, 3) := by decide +kernel
theorem d4_55 : decode method_4_code 55 = .ok (.iconst 0, 1) := by decide +kernel
theorem d4_56 : decode method_4_code 56 = .ok (.ireturn, 1) := by decide +kernel
theorem ef_rm4 (m : MethodId) (x0 : Addr) (x1 : Addr) (x2 : Int32) : entryFrame m #[(.ref x0), (.ref x1), (.int x2)] 4 = mkF m 0 #[.val (.ref x0), .val (.ref x1), .val (.int x2), .unset] [] := by first | (simp [entryFrame, mkF, argsToLocals, Value.category]; done) | rfl
set_option maxRecDepth 65536 in
set_option maxHeartbeats 40000000 in
theorem rm4 (l : Launch) (Z : State) (a0 : Array Value) (hw : ∀ d ∈ tables_1, d.before a0 Z = true) (ws : List Jvm.Cond) (a1 a2 : Addr) (p3 : Int32) (k1 k2 : ClassId) (z : Int32) (vs ws' : List Value) (h0 : Heap) (n0 : Nat) (Z0 : n0 ≤ h0.size) (V1 : Arv Z h0 a1 k1 .int z vs (.int (0 : Int32))) (V2 : Arv Z h0 a2 k2 .int (5 : Int32) ws' (.int (0 : Int32))) (hl : own_hl z vs ws' p3) :
    MetFree l (⟨"com/example/holdover/holdover/analysis/BreadthFirstPathPinLaw", "link", "([I[II)Z"⟩ : MethodName) (head1 (Jvm.Cond.code (⟨"com/example/holdover/holdover/analysis/BreadthFirstPathPinLaw", "link", "([I[II)Z"⟩ : MethodName) method_4_code 4 (some .boolean) :: ws) ({ frames := 0, cells := 0, slots := 0, locals := 0 } : Room)) (fun a U => a = #[(.ref a1), (.ref a2), (.int p3)] ∧ Z.Warmed39 U.vm ∧ U.heap = h0) (fun _ _ _ _ _ => True) (fun _ U o U' => ∃ v L, o = .returned v ∧ Q4 a1 a2 p3 k1 k2 z vs ws' h0 n0 v U'.heap L ∧ FrameEnd U o U' L ({ frames := 0, cells := 0, slots := 0, locals := 0 } : Room).cells ({ frames := 0, cells := 0, slots := 0, locals := 0 } : Room).slots) := by
  refine MetFree.of_bodySF (plainFor_of_name pn_com_example_holdover_holdover_analysis_BreadthFirstPathPinLaw) hisR ?_
  intro p e s m args below meth c s₁ Bd hml0 hP hK
  obtain ⟨rfl, hZ, hh⟩ := hP
  have hx := Bd.exec
  have hby := Bd.bytes
  have hml : c.maxLocals = 4 := hml0
  have hown : s.vm.findClass "com/example/holdover/holdover/analysis/BreadthFirstPathPinLaw" = some m.cls := findClass_of_methodNamed Bd.named
  have hnm := (name_of_methodNamed Bd.named Bd.method).1
  have X0 : Stand p l e ({ frames := 0, cells := 0, slots := 0, locals := 0 } : Room) s m #[(.ref a1), (.ref a2), (.int p3)] below meth c s₁ [] 0 0 := Stand.of_body Bd
  have e0 : s₁.heap = h0 := by rw [← hh, Bd.state]; rfl
  have N0 := Fr.nil n0
  have KP0 : Keep h0 h0 [] := Keep.refl h0 _
  obtain ⟨G, hG⟩ : ∃ G : State, G = s₁.setTop (entryFrame m #[(.ref a1), (.ref a2), (.int p3)] 4) := ⟨_, rfl⟩
  have pre0 : ∀ t, Steps p.tables e below (s₁.setTop (mkF m 0 #[.val (.ref a1), .val (.ref a2), .val (.int p3), .unset] [])) t → Steps p.tables e below G t := fun t k => hG ▸ castTop (ef_rm4 m a1 a2 p3) k
  rcases hl with hA | ⟨v, w, u, hj0, hv, hvr, hw', hB⟩
  · have K1 : ∀ t, Steps p.tables e below (s₁.setTop (mkF m 2 #[.val (.ref a1), .val (.ref a2), .val (.int p3), .unset] [(.ref a1), (.int p3)])) t → Steps p.tables e below G t := by
      intro t k
      refine pre0 t ?_
      show Steps p.tables e below (s₁.setTop (mkF m 0 #[.val (.ref a1), .val (.ref a2), .val (.int p3), .unset] [])) _
      refine XS.iloadN X0.here hx rfl (hb hby d4_0) rfl ?_
      refine XS.aloadN X0.here hx rfl (hb hby d4_1) rfl rfl ?_
      show Steps p.tables e below (s₁.setTop (mkF m 2 #[.val (.ref a1), .val (.ref a2), .val (.int p3), .unset] [(.ref a1), (.int p3)])) _
      exact k
    obtain ⟨cl2, Ar2, -, S2, M2, -, -⟩ := id V1
    have K3 : ∀ t, Steps p.tables e below (s₁.setTop (mkF m 3 #[.val (.ref a1), .val (.ref a2), .val (.int p3), .unset] [(.int z), (.int p3)])) t → Steps p.tables e below G t := by
      intro t k
      refine K1 t ?_
      refine X0.arraylength hx (by rw [e0]; exact Ar2.1) (State.isArrayOf_alike hZ.alike Ar2.2.1) (g := (mkF m 2 #[.val (.ref a1), .val (.ref a2), .val (.int p3), .unset] [(.ref a1), (.int p3)])) rfl rfl (hb hby d4_2) _ ?_
      rw [len_of S2 M2]
      exact k
    obtain ⟨fs, hr, hrun, hended, hW, hsame⟩ := X0.leave (v := some (.int (1 : Int32))) (fun h => by rw [Bd.returns] at h; cases h)
    have KF := K3
    rw [hG] at KF
    refine ⟨_, _, KF _ ?_, hrun, hended, _, _, rfl, ?_, ⟨_, rfl⟩, hW, hsame.mono (by decide) (by decide)⟩
    · show Steps p.tables e below (s₁.setTop (mkF m 3 #[.val (.ref a1), .val (.ref a2), .val (.int p3), .unset] [(.int z), (.int p3)])) _
      refine XS.icmpNo X0.here hx rfl (hb hby d4_3) rfl (flt hA).1 ?_
      refine XS.iconst X0.here hx rfl (hb hby d4_6) ?_
      show Steps p.tables e below (s₁.setTop (mkF m 7 #[.val (.ref a1), .val (.ref a2), .val (.int p3), .unset] [(.int (1 : Int32))])) _
      exact retN X0 hx (t := .boolean) Bd.returns (by simp) (hb hby d4_7) hr
    · show Q4 a1 a2 p3 k1 k2 z vs ws' h0 n0 _ s₁.heap _
      rw [e0]
      exact ⟨rfl, N0, rfl⟩
  · have K4 : ∀ t, Steps p.tables e below (s₁.setTop (mkF m 2 #[.val (.ref a1), .val (.ref a2), .val (.int p3), .unset] [(.ref a1), (.int p3)])) t → Steps p.tables e below G t := by
      intro t k
      refine pre0 t ?_
      show Steps p.tables e below (s₁.setTop (mkF m 0 #[.val (.ref a1), .val (.ref a2), .val (.int p3), .unset] [])) _
      refine XS.iloadN X0.here hx rfl (hb hby d4_0) rfl ?_
      refine XS.aloadN X0.here hx rfl (hb hby d4_1) rfl rfl ?_
      show Steps p.tables e below (s₁.setTop (mkF m 2 #[.val (.ref a1), .val (.ref a2), .val (.int p3), .unset] [(.ref a1), (.int p3)])) _
      exact k
    obtain ⟨cl5, Ar5, -, S5, M5, -, -⟩ := id V1
    have K6 : ∀ t, Steps p.tables e below (s₁.setTop (mkF m 3 #[.val (.ref a1), .val (.ref a2), .val (.int p3), .unset] [(.int z), (.int p3)])) t → Steps p.tables e below G t := by
      intro t k
      refine K4 t ?_
      refine X0.arraylength hx (by rw [e0]; exact Ar5.1) (State.isArrayOf_alike hZ.alike Ar5.2.1) (g := (mkF m 2 #[.val (.ref a1), .val (.ref a2), .val (.int p3), .unset] [(.ref a1), (.int p3)])) rfl rfl (hb hby d4_2) _ ?_
      rw [len_of S5 M5]
      exact k
    by_cases hc7 : p3 < z
    · have K8 : ∀ t, Steps p.tables e below (s₁.setTop (mkF m 10 #[.val (.ref a1), .val (.ref a2), .val (.int p3), .unset] [(.int p3), (.ref a1)])) t → Steps p.tables e below G t := by
        intro t k
        refine K6 t ?_
        show Steps p.tables e below (s₁.setTop (mkF m 3 #[.val (.ref a1), .val (.ref a2), .val (.int p3), .unset] [(.int z), (.int p3)])) _
        refine XS.icmpYes X0.here hx rfl (pc0 := 3) (pc' := 8) rfl (hb hby d4_3) rfl (tlt hc7).1 (by decide) (by decide) ?_
        refine XS.aloadN X0.here hx rfl (hb hby d4_8) rfl rfl ?_
        refine XS.iloadN X0.here hx rfl (hb hby d4_9) rfl ?_
        show Steps p.tables e below (s₁.setTop (mkF m 10 #[.val (.ref a1), .val (.ref a2), .val (.int p3), .unset] [(.int p3), (.ref a1)])) _
        exact k
      obtain ⟨cl9, Ar9, qc9, S9, M9, Ha9, Ga9⟩ := id V1
      have hin9 : ¬ (p3 < 0 ∨ cl9.slots.size ≤ (p3).toNatClampNeg) := inb_of S9 ⟨hj0, hc7⟩
      have hat9 : cl9.slots[(p3).toNatClampNeg]? = some (.int v) := Ha9.at hin9 hv
      have K10 : ∀ t, Steps p.tables e below (s₁.setTop (mkF m 11 #[.val (.ref a1), .val (.ref a2), .val (.int p3), .unset] [(.int v)])) t → Steps p.tables e below G t := fun t k => K8 t (X0.iaload hx (j := p3) (v := (.int v)) (by rw [e0]; exact Ar9.1) (State.isArrayOf_alike hZ.alike Ar9.2.1) Ar9.2.2 hin9 hat9 (g := (mkF m 10 #[.val (.ref a1), .val (.ref a2), .val (.int p3), .unset] [(.int p3), (.ref a1)])) rfl rfl (hb hby d4_10) _ k)
      have K11 : ∀ t, Steps p.tables e below (s₁.setTop (mkF m 18 #[.val (.ref a1), .val (.ref a2), .val (.int p3), .val (.int v)] [(.ref a2), (.int v)])) t → Steps p.tables e below G t := by
        intro t k
        refine K10 t ?_
        show Steps p.tables e below (s₁.setTop (mkF m 11 #[.val (.ref a1), .val (.ref a2), .val (.int p3), .unset] [(.int v)])) _
        refine XS.istoreN X0.here hx rfl (hb hby d4_11) rfl (l' := #[.val (.ref a1), .val (.ref a2), .val (.int p3), .val (.int v)]) rfl ?_
        refine XS.iloadN X0.here hx rfl (hb hby d4_12) rfl ?_
        refine XS.ifNo X0.here hx rfl (hb hby d4_13) rfl ((if0 _ _).trans (flt hvr.1).1) ?_
        refine XS.iloadN X0.here hx rfl (hb hby d4_16) rfl ?_
        show Steps p.tables e below (s₁.setTop (mkF m 17 #[.val (.ref a1), .val (.ref a2), .val (.int p3), .val (.int v)] [(.int v)])) _
        refine XS.aloadN X0.here hx rfl (hb hby d4_17) rfl rfl ?_
        show Steps p.tables e below (s₁.setTop (mkF m 18 #[.val (.ref a1), .val (.ref a2), .val (.int p3), .val (.int v)] [(.ref a2), (.int v)])) _
        exact k
      obtain ⟨cl12, Ar12, -, S12, M12, -, -⟩ := id V2
      have K13 : ∀ t, Steps p.tables e below (s₁.setTop (mkF m 19 #[.val (.ref a1), .val (.ref a2), .val (.int p3), .val (.int v)] [(.int (5 : Int32)), (.int v)])) t → Steps p.tables e below G t := by
        intro t k
        refine K11 t ?_
        refine X0.arraylength hx (by rw [e0]; exact Ar12.1) (State.isArrayOf_alike hZ.alike Ar12.2.1) (g := (mkF m 18 #[.val (.ref a1), .val (.ref a2), .val (.int p3), .val (.int v)] [(.ref a2), (.int v)])) rfl rfl (hb hby d4_18) _ ?_
        rw [len_of S12 M12]
        exact k
      have K14 : ∀ t, Steps p.tables e below (s₁.setTop (mkF m 25 #[.val (.ref a1), .val (.ref a2), .val (.int p3), .val (.int v)] [(.int p3)])) t → Steps p.tables e below G t := by
        intro t k
        refine K13 t ?_
        show Steps p.tables e below (s₁.setTop (mkF m 19 #[.val (.ref a1), .val (.ref a2), .val (.int p3), .val (.int v)] [(.int (5 : Int32)), (.int v)])) _
        refine XS.icmpYes X0.here hx rfl (pc0 := 19) (pc' := 24) rfl (hb hby d4_19) rfl (tlt hvr.2).1 (by decide) (by decide) ?_
        refine XS.iloadN X0.here hx rfl (hb hby d4_24) rfl ?_
        show Steps p.tables e below (s₁.setTop (mkF m 25 #[.val (.ref a1), .val (.ref a2), .val (.int p3), .val (.int v)] [(.int p3)])) _
        exact k
      by_cases hc15 : p3 = (0 : Int32)
      · have K16 : ∀ t, Steps p.tables e below (s₁.setTop (mkF m 30 #[.val (.ref a1), .val (.ref a2), .val (.int p3), .val (.int v)] [(.int v), (.ref a2)])) t → Steps p.tables e below G t := by
          intro t k
          refine K14 t ?_
          show Steps p.tables e below (s₁.setTop (mkF m 25 #[.val (.ref a1), .val (.ref a2), .val (.int p3), .val (.int v)] [(.int p3)])) _
          refine XS.ifNo X0.here hx rfl (hb hby d4_25) rfl ((if0 _ _).trans (teq hc15).2) ?_
          refine XS.aloadN X0.here hx rfl (hb hby d4_28) rfl rfl ?_
          refine XS.iloadN X0.here hx rfl (hb hby d4_29) rfl ?_
          show Steps p.tables e below (s₁.setTop (mkF m 30 #[.val (.ref a1), .val (.ref a2), .val (.int p3), .val (.int v)] [(.int v), (.ref a2)])) _
          exact k
        obtain ⟨cl17, Ar17, qc17, S17, M17, Ha17, Ga17⟩ := id V2
        have hin17 : ¬ (v < 0 ∨ cl17.slots.size ≤ (v).toNatClampNeg) := inb_of S17 hvr
        have hat17 : cl17.slots[(v).toNatClampNeg]? = some (.int w) := Ha17.at hin17 hw'
        have K18 : ∀ t, Steps p.tables e below (s₁.setTop (mkF m 31 #[.val (.ref a1), .val (.ref a2), .val (.int p3), .val (.int v)] [(.int w)])) t → Steps p.tables e below G t := fun t k => K16 t (X0.iaload hx (j := v) (v := (.int w)) (by rw [e0]; exact Ar17.1) (State.isArrayOf_alike hZ.alike Ar17.2.1) Ar17.2.2 hin17 hat17 (g := (mkF m 30 #[.val (.ref a1), .val (.ref a2), .val (.int p3), .val (.int v)] [(.int v), (.ref a2)])) rfl rfl (hb hby d4_30) _ k)
        obtain ⟨fs, hr, hrun, hended, hW, hsame⟩ := X0.leave (v := some (.int (1 : Int32))) (fun h => by rw [Bd.returns] at h; cases h)
        have KF := K18
        rw [hG] at KF
        refine ⟨_, _, KF _ ?_, hrun, hended, _, _, rfl, ?_, ⟨_, rfl⟩, hW, hsame.mono (by decide) (by decide)⟩
        · show Steps p.tables e below (s₁.setTop (mkF m 31 #[.val (.ref a1), .val (.ref a2), .val (.int p3), .val (.int v)] [(.int w)])) _
          refine XS.ifNo X0.here hx rfl (hb hby d4_31) rfl ((if0 _ _).trans (tlt (hB.elim (fun q => q.2) (fun q => absurd hc15 q.1))).2.1) ?_
          refine XS.iconst X0.here hx rfl (hb hby d4_34) ?_
          refine XS.goto X0.here hx rfl (pc0 := 35) (pc' := 39) rfl (hb hby d4_35) (by decide) (by decide) ?_
          show Steps p.tables e below (s₁.setTop (mkF m 39 #[.val (.ref a1), .val (.ref a2), .val (.int p3), .val (.int v)] [(.int (1 : Int32))])) _
          exact retN X0 hx (t := .boolean) Bd.returns (by simp) (hb hby d4_39) hr
        · show Q4 a1 a2 p3 k1 k2 z vs ws' h0 n0 _ s₁.heap _
          rw [e0]
          exact ⟨rfl, N0, rfl⟩
      · have K19 : ∀ t, Steps p.tables e below (s₁.setTop (mkF m 42 #[.val (.ref a1), .val (.ref a2), .val (.int p3), .val (.int v)] [(.int v), (.ref a2)])) t → Steps p.tables e below G t := by
          intro t k
          refine K14 t ?_
          show Steps p.tables e below (s₁.setTop (mkF m 25 #[.val (.ref a1), .val (.ref a2), .val (.int p3), .val (.int v)] [(.int p3)])) _
          refine XS.ifYes X0.here hx rfl (pc0 := 25) (pc' := 40) rfl (hb hby d4_25) rfl ((if0 _ _).trans (feq hc15).2) (by decide) (by decide) ?_
          refine XS.aloadN X0.here hx rfl (hb hby d4_40) rfl rfl ?_
          refine XS.iloadN X0.here hx rfl (hb hby d4_41) rfl ?_
          show Steps p.tables e below (s₁.setTop (mkF m 42 #[.val (.ref a1), .val (.ref a2), .val (.int p3), .val (.int v)] [(.int v), (.ref a2)])) _
          exact k
        obtain ⟨cl20, Ar20, qc20, S20, M20, Ha20, Ga20⟩ := id V2
        have hin20 : ¬ (v < 0 ∨ cl20.slots.size ≤ (v).toNatClampNeg) := inb_of S20 hvr
        have hat20 : cl20.slots[(v).toNatClampNeg]? = some (.int w) := Ha20.at hin20 hw'
        have K21 : ∀ t, Steps p.tables e below (s₁.setTop (mkF m 43 #[.val (.ref a1), .val (.ref a2), .val (.int p3), .val (.int v)] [(.int w)])) t → Steps p.tables e below G t := fun t k => K19 t (X0.iaload hx (j := v) (v := (.int w)) (by rw [e0]; exact Ar20.1) (State.isArrayOf_alike hZ.alike Ar20.2.1) Ar20.2.2 hin20 hat20 (g := (mkF m 42 #[.val (.ref a1), .val (.ref a2), .val (.int p3), .val (.int v)] [(.int v), (.ref a2)])) rfl rfl (hb hby d4_42) _ k)
        have K22 : ∀ t, Steps p.tables e below (s₁.setTop (mkF m 47 #[.val (.ref a1), .val (.ref a2), .val (.int p3), .val (.int v)] [(.int (p3 - (1 : Int32))), (.ref a1), (.int w)])) t → Steps p.tables e below G t := by
          intro t k
          refine K21 t ?_
          show Steps p.tables e below (s₁.setTop (mkF m 43 #[.val (.ref a1), .val (.ref a2), .val (.int p3), .val (.int v)] [(.int w)])) _
          refine XS.aloadN X0.here hx rfl (hb hby d4_43) rfl rfl ?_
          refine XS.iloadN X0.here hx rfl (hb hby d4_44) rfl ?_
          refine XS.iconst X0.here hx rfl (hb hby d4_45) ?_
          refine XS.isub X0.here hx rfl (hb hby d4_46) rfl ?_
          show Steps p.tables e below (s₁.setTop (mkF m 47 #[.val (.ref a1), .val (.ref a2), .val (.int p3), .val (.int v)] [(.int (p3 - (1 : Int32))), (.ref a1), (.int w)])) _
          exact k
        obtain ⟨cl23, Ar23, qc23, S23, M23, Ha23, Ga23⟩ := id V1
        have hin23 : ¬ ((p3 - (1 : Int32)) < 0 ∨ cl23.slots.size ≤ ((p3 - (1 : Int32))).toNatClampNeg) := inb_of S23 (hB.elim (fun q => absurd q.1 hc15) (fun q => q.2.1))
        have hat23 : cl23.slots[((p3 - (1 : Int32))).toNatClampNeg]? = some (.int u) := Ha23.at hin23 (hB.elim (fun q => absurd q.1 hc15) (fun q => q.2.2.1))
        have K24 : ∀ t, Steps p.tables e below (s₁.setTop (mkF m 48 #[.val (.ref a1), .val (.ref a2), .val (.int p3), .val (.int v)] [(.int u), (.int w)])) t → Steps p.tables e below G t := fun t k => K22 t (X0.iaload hx (j := (p3 - (1 : Int32))) (v := (.int u)) (by rw [e0]; exact Ar23.1) (State.isArrayOf_alike hZ.alike Ar23.2.1) Ar23.2.2 hin23 hat23 (g := (mkF m 47 #[.val (.ref a1), .val (.ref a2), .val (.int p3), .val (.int v)] [(.int (p3 - (1 : Int32))), (.ref a1), (.int w)])) rfl rfl (hb hby d4_47) _ k)
        obtain ⟨fs, hr, hrun, hended, hW, hsame⟩ := X0.leave (v := some (.int (1 : Int32))) (fun h => by rw [Bd.returns] at h; cases h)
        have KF := K24
        rw [hG] at KF
        refine ⟨_, _, KF _ ?_, hrun, hended, _, _, rfl, ?_, ⟨_, rfl⟩, hW, hsame.mono (by decide) (by decide)⟩
        · show Steps p.tables e below (s₁.setTop (mkF m 48 #[.val (.ref a1), .val (.ref a2), .val (.int p3), .val (.int v)] [(.int u), (.int w)])) _
          refine XS.icmpNo X0.here hx rfl (hb hby d4_48) rfl (teq (hB.elim (fun q => absurd q.1 hc15) (fun q => q.2.2.2))).2 ?_
          refine XS.iconst X0.here hx rfl (hb hby d4_51) ?_
          refine XS.goto X0.here hx rfl (pc0 := 52) (pc' := 56) rfl (hb hby d4_52) (by decide) (by decide) ?_
          show Steps p.tables e below (s₁.setTop (mkF m 56 #[.val (.ref a1), .val (.ref a2), .val (.int p3), .val (.int v)] [(.int (1 : Int32))])) _
          exact retN X0 hx (t := .boolean) Bd.returns (by simp) (hb hby d4_56) hr
        · show Q4 a1 a2 p3 k1 k2 z vs ws' h0 n0 _ s₁.heap _
          rw [e0]
          exact ⟨rfl, N0, rfl⟩
    · obtain ⟨fs, hr, hrun, hended, hW, hsame⟩ := X0.leave (v := some (.int (1 : Int32))) (fun h => by rw [Bd.returns] at h; cases h)
      have KF := K6
      rw [hG] at KF
      refine ⟨_, _, KF _ ?_, hrun, hended, _, _, rfl, ?_, ⟨_, rfl⟩, hW, hsame.mono (by decide) (by decide)⟩
      · show Steps p.tables e below (s₁.setTop (mkF m 3 #[.val (.ref a1), .val (.ref a2), .val (.int p3), .unset] [(.int z), (.int p3)])) _
        refine XS.icmpNo X0.here hx rfl (hb hby d4_3) rfl (flt hc7).1 ?_
        refine XS.iconst X0.here hx rfl (hb hby d4_6) ?_
        show Steps p.tables e below (s₁.setTop (mkF m 7 #[.val (.ref a1), .val (.ref a2), .val (.int p3), .unset] [(.int (1 : Int32))])) _
        exact retN X0 hx (t := .boolean) Bd.returns (by simp) (hb hby d4_7) hr
      · show Q4 a1 a2 p3 k1 k2 z vs ws' h0 n0 _ s₁.heap _
        rw [e0]
        exact ⟨rfl, N0, rfl⟩
def Q0 (n0 : Nat) (v : Option Value) (h : Heap) (L : List Loc) : Prop := v = some (.int 1) ∧ Fr n0 L
theorem pd_1 : parseMethodDescriptor "(II)I" = some ⟨[.int, .int], some .int⟩ := by decide +kernel
theorem pd_2 : parseMethodDescriptor "([II)[I" = some ⟨[(.array .int), .int], some (.array .int)⟩ := by decide +kernel
theorem pd_3 : parseMethodDescriptor "([I[II)Z" = some ⟨[(.array .int), (.array .int), .int], some .boolean⟩ := by decide +kernel
theorem ef_rm0 (m : MethodId) (x0 : Int32) (x1 : Int32) (x2 : Int32) (x3 : Int32) (x4 : Int32) (x5 : Int32) : entryFrame m #[(.int x0), (.int x1), (.int x2), (.int x3), (.int x4), (.int x5)] maxLocals = mkF m 0 #[.val (.int x0), .val (.int x1), .val (.int x2), .val (.int x3), .val (.int x4), .val (.int x5), .unset, .unset, .unset, .unset, .unset, .unset, .unset, .unset, .unset, .unset, .unset] [] := by first | (simp [entryFrame, mkF, argsToLocals, Value.category, maxLocals]; done) | rfl
set_option maxRecDepth 65536 in
set_option maxHeartbeats 40000000 in
theorem rm0 (l : Launch) (Z : State) (a0 : Array Value) (hw : ∀ d ∈ tables_1, d.before a0 Z = true) (ws : List Jvm.Cond) (p1 p2 p3 p4 p5 p6 : Int32) (h0 : Heap) (n0 : Nat) (Z0 : n0 ≤ h0.size) :
    MetFree l x (head1 (Jvm.Cond.code x code maxLocals ret :: ws) room_1) (fun a U => a = #[(.int p1), (.int p2), (.int p3), (.int p4), (.int p5), (.int p6)] ∧ Z.Warmed39 U.vm ∧ U.heap = h0) (fun _ _ _ _ _ => True) (fun _ U o U' => ∃ v L, o = .returned v ∧ Q0 n0 v U'.heap L ∧ FrameEnd U o U' L room_1.cells room_1.slots) := by
  refine MetFree.of_bodySF (plainFor_of_name pn_com_example_holdover_holdover_analysis_BreadthFirstPathPinLaw) hisR ?_
  intro p e s m args below meth c s₁ Bd hml0 hP hK
  obtain ⟨rfl, hZ, hh⟩ := hP
  have hx := Bd.exec
  have hby := Bd.bytes
  have hml : c.maxLocals = 17 := hml0
  have hown : s.vm.findClass "com/example/holdover/holdover/analysis/BreadthFirstPathPinLaw" = some m.cls := findClass_of_methodNamed Bd.named
  have hnm := (name_of_methodNamed Bd.named Bd.method).1
  have X0 : Stand p l e room_1 s m #[(.int p1), (.int p2), (.int p3), (.int p4), (.int p5), (.int p6)] below meth c s₁ [] 0 0 := Stand.of_body Bd
  have e0 : s₁.heap = h0 := by rw [← hh, Bd.state]; rfl
  have N0 := Fr.nil n0
  have KP0 : Keep h0 h0 [] := Keep.refl h0 _
  obtain ⟨G, hG⟩ : ∃ G : State, G = s₁.setTop (entryFrame m #[(.int p1), (.int p2), (.int p3), (.int p4), (.int p5), (.int p6)] maxLocals) := ⟨_, rfl⟩
  have pre0 : ∀ t, Steps p.tables e below (s₁.setTop (mkF m 0 #[.val (.int p1), .val (.int p2), .val (.int p3), .val (.int p4), .val (.int p5), .val (.int p6), .unset, .unset, .unset, .unset, .unset, .unset, .unset, .unset, .unset, .unset, .unset] [])) t → Steps p.tables e below G t := fun t k => hG ▸ castTop (ef_rm0 m p1 p2 p3 p4 p5 p6) k
  have K1 : ∀ t, Steps p.tables e below (s₁.setTop (mkF m 4 #[.val (.int p1), .val (.int p2), .val (.int p3), .val (.int p4), .val (.int p5), .val (.int p6), .unset, .unset, .unset, .unset, .unset, .unset, .unset, .unset, .unset, .unset, .unset] [(.int (p1 ||| (-2147483648 : Int32)))])) t → Steps p.tables e below G t := by
    intro t k
    refine pre0 t ?_
    show Steps p.tables e below (s₁.setTop (mkF m 0 #[.val (.int p1), .val (.int p2), .val (.int p3), .val (.int p4), .val (.int p5), .val (.int p6), .unset, .unset, .unset, .unset, .unset, .unset, .unset, .unset, .unset, .unset, .unset] [])) _
    refine XS.iloadN X0.here hx rfl (hb hby at_0) rfl ?_
    refine X0.ldcInt hx hown (mvT hZ (hw _ (List.mem_of_getElem? (i := 0) rfl))) (g := (mkF m 1 #[.val (.int p1), .val (.int p2), .val (.int p3), .val (.int p4), .val (.int p5), .val (.int p6), .unset, .unset, .unset, .unset, .unset, .unset, .unset, .unset, .unset, .unset, .unset] [(.int p1)])) rfl (hb hby at_1) _ ?_
    refine XS.ior X0.here hx rfl (hb hby at_3) rfl ?_
    show Steps p.tables e below (s₁.setTop (mkF m 4 #[.val (.int p1), .val (.int p2), .val (.int p3), .val (.int p4), .val (.int p5), .val (.int p6), .unset, .unset, .unset, .unset, .unset, .unset, .unset, .unset, .unset, .unset, .unset] [(.int (p1 ||| (-2147483648 : Int32)))])) _
    exact k
  obtain ⟨_, _, ⟨T2, L2, kk2, nn2⟩, -, X2, ⟨Lc2, hQ2, lq2, yq2, zq2⟩, st2⟩ := Jvm.LawKit.callS X0 hx (y := (⟨"com/example/holdover/holdover/analysis/BreadthFirstPathPinLaw", "neg", "(I)I"⟩ : MethodName)) hown (mvT hZ (hw _ (List.mem_of_getElem? (i := 1) rfl))) (mvT hZ (hw _ (List.mem_of_getElem? (i := 2) rfl))) (mvT hZ (hw _ (List.mem_of_getElem? (i := 3) rfl))) (mvT hZ (hw _ (List.mem_of_getElem? (i := 4) rfl))) (by decide) (backOf (W := 0) (rm1 l Z a0 hw [] (p1 ||| (-2147483648 : Int32)) h0 n0 Z0 ) hZ (hw _ (List.mem_of_getElem? (i := 4) rfl)) (hw _ (List.mem_of_getElem? (i := 3) rfl)) (by decide) (by decide)) (g := (mkF m 4 #[.val (.int p1), .val (.int p2), .val (.int p3), .val (.int p4), .val (.int p5), .val (.int p6), .unset, .unset, .unset, .unset, .unset, .unset, .unset, .unset, .unset, .unset, .unset] [(.int (p1 ||| (-2147483648 : Int32)))])) rfl (by rw [hml]; rfl) (argsL := [(.int (p1 ||| (-2147483648 : Int32)))]) (rest := []) (lenOf pd_0 rfl) rfl (by show 2 * 0 + _ ≤ _; exact Nat.le_of_eq rfl) (hb hby at_4) (fun _ _ => ⟨rfl, e0, (by decide : 0 + 0 ≤ _), (by decide : 0 + 0 ≤ _)⟩)
  dsimp only [Pt.U, Pt.locs, Pt.cells, Pt.slots] at X2 lq2 yq2 zq2 st2 hQ2
  subst lq2 yq2 zq2
  obtain ⟨rfl, Nq2, e2⟩ := hQ2
  have N3 := Fr.app N0 Nq2
  have K4 : ∀ t, Steps p.tables e below (T2.setTop (mkF m 7 #[.val (.int p1), .val (.int p2), .val (.int p3), .val (.int p4), .val (.int p5), .val (.int p6), .unset, .unset, .unset, .unset, .unset, .unset, .unset, .unset, .unset, .unset, .unset] [(.int (own_neg (p1 ||| (-2147483648 : Int32))))])) t → Steps p.tables e below G t := fun t k => K1 t (st2 _ k)
  obtain ⟨qv0, h_qv0⟩ : ∃ z : Int32, z = (own_neg (p1 ||| (-2147483648 : Int32))) := ⟨_, rfl⟩
  have K5 : ∀ t, Steps p.tables e below (T2.setTop (mkF m 7 #[.val (.int p1), .val (.int p2), .val (.int p3), .val (.int p4), .val (.int p5), .val (.int p6), .unset, .unset, .unset, .unset, .unset, .unset, .unset, .unset, .unset, .unset, .unset] [(.int qv0)])) t → Steps p.tables e below G t := by rw [h_qv0]; exact K4
  have hq0 : qv0 < 0 := by rw [h_qv0]; exact own_neg_lt _ (own_or_lt _)
  have K6 : ∀ t, Steps p.tables e below (T2.setTop (mkF m 11 #[.val (.int p1), .val (.int p2), .val (.int p3), .val (.int p4), .val (.int p5), .val (.int p6), .val (.int qv0), .unset, .unset, .unset, .unset, .unset, .unset, .unset, .unset, .unset, .unset] [(.int (1 : Int32)), (.int p2)])) t → Steps p.tables e below G t := by
    intro t k
    refine K5 t ?_
    show Steps p.tables e below (T2.setTop (mkF m 7 #[.val (.int p1), .val (.int p2), .val (.int p3), .val (.int p4), .val (.int p5), .val (.int p6), .unset, .unset, .unset, .unset, .unset, .unset, .unset, .unset, .unset, .unset, .unset] [(.int qv0)])) _
    refine XS.istore X2.here hx rfl (hb hby at_7) rfl (l' := #[.val (.int p1), .val (.int p2), .val (.int p3), .val (.int p4), .val (.int p5), .val (.int p6), .val (.int qv0), .unset, .unset, .unset, .unset, .unset, .unset, .unset, .unset, .unset, .unset]) rfl ?_
    refine XS.iloadN X2.here hx rfl (hb hby at_9) rfl ?_
    refine XS.iconst X2.here hx rfl (hb hby at_10) ?_
    show Steps p.tables e below (T2.setTop (mkF m 11 #[.val (.int p1), .val (.int p2), .val (.int p3), .val (.int p4), .val (.int p5), .val (.int p6), .val (.int qv0), .unset, .unset, .unset, .unset, .unset, .unset, .unset, .unset, .unset, .unset] [(.int (1 : Int32)), (.int p2)])) _
    exact k
  obtain ⟨_, _, ⟨T7, L7, kk7, nn7⟩, -, X7, ⟨Lc7, hQ7, lq7, yq7, zq7⟩, st7⟩ := Jvm.LawKit.callS X2 hx (y := (⟨"com/example/holdover/holdover/analysis/BreadthFirstPathPinLaw", "draw", "(II)I"⟩ : MethodName)) hown (mvT hZ (hw _ (List.mem_of_getElem? (i := 5) rfl))) (mvT hZ (hw _ (List.mem_of_getElem? (i := 6) rfl))) (mvT hZ (hw _ (List.mem_of_getElem? (i := 3) rfl))) (mvT hZ (hw _ (List.mem_of_getElem? (i := 7) rfl))) (by decide) (backOf (W := 0) (rm2 l Z a0 hw [] p2 (1 : Int32) h0 n0 Z0 (by decide)) hZ (hw _ (List.mem_of_getElem? (i := 7) rfl)) (hw _ (List.mem_of_getElem? (i := 3) rfl)) (by decide) (by decide)) (g := (mkF m 11 #[.val (.int p1), .val (.int p2), .val (.int p3), .val (.int p4), .val (.int p5), .val (.int p6), .val (.int qv0), .unset, .unset, .unset, .unset, .unset, .unset, .unset, .unset, .unset, .unset] [(.int (1 : Int32)), (.int p2)])) rfl (by rw [hml]; rfl) (argsL := [(.int p2), (.int (1 : Int32))]) (rest := []) (lenOf pd_1 rfl) rfl (by show 2 * 0 + _ ≤ _; exact Nat.le_of_eq rfl) (hb hby at_11) (fun _ _ => ⟨rfl, e2, (by decide : 0 + 0 ≤ _), (by decide : 0 + 0 ≤ _)⟩)
  dsimp only [Pt.U, Pt.locs, Pt.cells, Pt.slots] at X7 lq7 yq7 zq7 st7 hQ7
  subst lq7 yq7 zq7
  obtain ⟨rfl, Nq7, e7⟩ := hQ7
  have N8 := Fr.app N3 Nq7
  have K9 : ∀ t, Steps p.tables e below (T7.setTop (mkF m 14 #[.val (.int p1), .val (.int p2), .val (.int p3), .val (.int p4), .val (.int p5), .val (.int p6), .val (.int qv0), .unset, .unset, .unset, .unset, .unset, .unset, .unset, .unset, .unset, .unset] [(.int (own_draw p2 (1 : Int32)))])) t → Steps p.tables e below G t := fun t k => K6 t (st7 _ k)
  obtain ⟨qv1, h_qv1⟩ : ∃ z : Int32, z = (own_draw p2 (1 : Int32)) := ⟨_, rfl⟩
  have K10 : ∀ t, Steps p.tables e below (T7.setTop (mkF m 14 #[.val (.int p1), .val (.int p2), .val (.int p3), .val (.int p4), .val (.int p5), .val (.int p6), .val (.int qv0), .unset, .unset, .unset, .unset, .unset, .unset, .unset, .unset, .unset, .unset] [(.int qv1)])) t → Steps p.tables e below G t := by rw [h_qv1]; exact K9
  have hq1 : qv1 < 1 := by rw [h_qv1]; exact own_draw_lt _ _ 1 (by decide) rfl
  have K11 : ∀ t, Steps p.tables e below (T7.setTop (mkF m 18 #[.val (.int p1), .val (.int p2), .val (.int p3), .val (.int p4), .val (.int p5), .val (.int p6), .val (.int qv0), .val (.int qv1), .unset, .unset, .unset, .unset, .unset, .unset, .unset, .unset, .unset] [(.int (2 : Int32)), (.int p3)])) t → Steps p.tables e below G t := by
    intro t k
    refine K10 t ?_
    show Steps p.tables e below (T7.setTop (mkF m 14 #[.val (.int p1), .val (.int p2), .val (.int p3), .val (.int p4), .val (.int p5), .val (.int p6), .val (.int qv0), .unset, .unset, .unset, .unset, .unset, .unset, .unset, .unset, .unset, .unset] [(.int qv1)])) _
    refine XS.istore X7.here hx rfl (hb hby at_14) rfl (l' := #[.val (.int p1), .val (.int p2), .val (.int p3), .val (.int p4), .val (.int p5), .val (.int p6), .val (.int qv0), .val (.int qv1), .unset, .unset, .unset, .unset, .unset, .unset, .unset, .unset, .unset]) rfl ?_
    refine XS.iloadN X7.here hx rfl (hb hby at_16) rfl ?_
    refine XS.iconst X7.here hx rfl (hb hby at_17) ?_
    show Steps p.tables e below (T7.setTop (mkF m 18 #[.val (.int p1), .val (.int p2), .val (.int p3), .val (.int p4), .val (.int p5), .val (.int p6), .val (.int qv0), .val (.int qv1), .unset, .unset, .unset, .unset, .unset, .unset, .unset, .unset, .unset] [(.int (2 : Int32)), (.int p3)])) _
    exact k
  obtain ⟨_, _, ⟨T12, L12, kk12, nn12⟩, -, X12, ⟨Lc12, hQ12, lq12, yq12, zq12⟩, st12⟩ := Jvm.LawKit.callS X7 hx (y := (⟨"com/example/holdover/holdover/analysis/BreadthFirstPathPinLaw", "draw", "(II)I"⟩ : MethodName)) hown (mvT hZ (hw _ (List.mem_of_getElem? (i := 5) rfl))) (mvT hZ (hw _ (List.mem_of_getElem? (i := 6) rfl))) (mvT hZ (hw _ (List.mem_of_getElem? (i := 3) rfl))) (mvT hZ (hw _ (List.mem_of_getElem? (i := 7) rfl))) (by decide) (backOf (W := 0) (rm2 l Z a0 hw [] p3 (2 : Int32) h0 n0 Z0 (by decide)) hZ (hw _ (List.mem_of_getElem? (i := 7) rfl)) (hw _ (List.mem_of_getElem? (i := 3) rfl)) (by decide) (by decide)) (g := (mkF m 18 #[.val (.int p1), .val (.int p2), .val (.int p3), .val (.int p4), .val (.int p5), .val (.int p6), .val (.int qv0), .val (.int qv1), .unset, .unset, .unset, .unset, .unset, .unset, .unset, .unset, .unset] [(.int (2 : Int32)), (.int p3)])) rfl (by rw [hml]; rfl) (argsL := [(.int p3), (.int (2 : Int32))]) (rest := []) (lenOf pd_1 rfl) rfl (by show 2 * 0 + _ ≤ _; exact Nat.le_of_eq rfl) (hb hby at_18) (fun _ _ => ⟨rfl, e7, (by decide : 0 + 0 ≤ _), (by decide : 0 + 0 ≤ _)⟩)
  dsimp only [Pt.U, Pt.locs, Pt.cells, Pt.slots] at X12 lq12 yq12 zq12 st12 hQ12
  subst lq12 yq12 zq12
  obtain ⟨rfl, Nq12, e12⟩ := hQ12
  have N13 := Fr.app N8 Nq12
  have K14 : ∀ t, Steps p.tables e below (T12.setTop (mkF m 21 #[.val (.int p1), .val (.int p2), .val (.int p3), .val (.int p4), .val (.int p5), .val (.int p6), .val (.int qv0), .val (.int qv1), .unset, .unset, .unset, .unset, .unset, .unset, .unset, .unset, .unset] [(.int (own_draw p3 (2 : Int32)))])) t → Steps p.tables e below G t := fun t k => K11 t (st12 _ k)
  obtain ⟨qv2, h_qv2⟩ : ∃ z : Int32, z = (own_draw p3 (2 : Int32)) := ⟨_, rfl⟩
  have K15 : ∀ t, Steps p.tables e below (T12.setTop (mkF m 21 #[.val (.int p1), .val (.int p2), .val (.int p3), .val (.int p4), .val (.int p5), .val (.int p6), .val (.int qv0), .val (.int qv1), .unset, .unset, .unset, .unset, .unset, .unset, .unset, .unset, .unset] [(.int qv2)])) t → Steps p.tables e below G t := by rw [h_qv2]; exact K14
  have hq2 : qv2 < 2 := by rw [h_qv2]; exact own_draw_lt _ _ 2 (by decide) rfl
  have K16 : ∀ t, Steps p.tables e below (T12.setTop (mkF m 25 #[.val (.int p1), .val (.int p2), .val (.int p3), .val (.int p4), .val (.int p5), .val (.int p6), .val (.int qv0), .val (.int qv1), .val (.int qv2), .unset, .unset, .unset, .unset, .unset, .unset, .unset, .unset] [(.int (3 : Int32)), (.int p4)])) t → Steps p.tables e below G t := by
    intro t k
    refine K15 t ?_
    show Steps p.tables e below (T12.setTop (mkF m 21 #[.val (.int p1), .val (.int p2), .val (.int p3), .val (.int p4), .val (.int p5), .val (.int p6), .val (.int qv0), .val (.int qv1), .unset, .unset, .unset, .unset, .unset, .unset, .unset, .unset, .unset] [(.int qv2)])) _
    refine XS.istore X12.here hx rfl (hb hby at_21) rfl (l' := #[.val (.int p1), .val (.int p2), .val (.int p3), .val (.int p4), .val (.int p5), .val (.int p6), .val (.int qv0), .val (.int qv1), .val (.int qv2), .unset, .unset, .unset, .unset, .unset, .unset, .unset, .unset]) rfl ?_
    refine XS.iloadN X12.here hx rfl (hb hby at_23) rfl ?_
    refine XS.iconst X12.here hx rfl (hb hby at_24) ?_
    show Steps p.tables e below (T12.setTop (mkF m 25 #[.val (.int p1), .val (.int p2), .val (.int p3), .val (.int p4), .val (.int p5), .val (.int p6), .val (.int qv0), .val (.int qv1), .val (.int qv2), .unset, .unset, .unset, .unset, .unset, .unset, .unset, .unset] [(.int (3 : Int32)), (.int p4)])) _
    exact k
  obtain ⟨_, _, ⟨T17, L17, kk17, nn17⟩, -, X17, ⟨Lc17, hQ17, lq17, yq17, zq17⟩, st17⟩ := Jvm.LawKit.callS X12 hx (y := (⟨"com/example/holdover/holdover/analysis/BreadthFirstPathPinLaw", "draw", "(II)I"⟩ : MethodName)) hown (mvT hZ (hw _ (List.mem_of_getElem? (i := 5) rfl))) (mvT hZ (hw _ (List.mem_of_getElem? (i := 6) rfl))) (mvT hZ (hw _ (List.mem_of_getElem? (i := 3) rfl))) (mvT hZ (hw _ (List.mem_of_getElem? (i := 7) rfl))) (by decide) (backOf (W := 0) (rm2 l Z a0 hw [] p4 (3 : Int32) h0 n0 Z0 (by decide)) hZ (hw _ (List.mem_of_getElem? (i := 7) rfl)) (hw _ (List.mem_of_getElem? (i := 3) rfl)) (by decide) (by decide)) (g := (mkF m 25 #[.val (.int p1), .val (.int p2), .val (.int p3), .val (.int p4), .val (.int p5), .val (.int p6), .val (.int qv0), .val (.int qv1), .val (.int qv2), .unset, .unset, .unset, .unset, .unset, .unset, .unset, .unset] [(.int (3 : Int32)), (.int p4)])) rfl (by rw [hml]; rfl) (argsL := [(.int p4), (.int (3 : Int32))]) (rest := []) (lenOf pd_1 rfl) rfl (by show 2 * 0 + _ ≤ _; exact Nat.le_of_eq rfl) (hb hby at_25) (fun _ _ => ⟨rfl, e12, (by decide : 0 + 0 ≤ _), (by decide : 0 + 0 ≤ _)⟩)
  dsimp only [Pt.U, Pt.locs, Pt.cells, Pt.slots] at X17 lq17 yq17 zq17 st17 hQ17
  subst lq17 yq17 zq17
  obtain ⟨rfl, Nq17, e17⟩ := hQ17
  have N18 := Fr.app N13 Nq17
  have K19 : ∀ t, Steps p.tables e below (T17.setTop (mkF m 28 #[.val (.int p1), .val (.int p2), .val (.int p3), .val (.int p4), .val (.int p5), .val (.int p6), .val (.int qv0), .val (.int qv1), .val (.int qv2), .unset, .unset, .unset, .unset, .unset, .unset, .unset, .unset] [(.int (own_draw p4 (3 : Int32)))])) t → Steps p.tables e below G t := fun t k => K16 t (st17 _ k)
  obtain ⟨qv3, h_qv3⟩ : ∃ z : Int32, z = (own_draw p4 (3 : Int32)) := ⟨_, rfl⟩
  have K20 : ∀ t, Steps p.tables e below (T17.setTop (mkF m 28 #[.val (.int p1), .val (.int p2), .val (.int p3), .val (.int p4), .val (.int p5), .val (.int p6), .val (.int qv0), .val (.int qv1), .val (.int qv2), .unset, .unset, .unset, .unset, .unset, .unset, .unset, .unset] [(.int qv3)])) t → Steps p.tables e below G t := by rw [h_qv3]; exact K19
  have hq3 : qv3 < 3 := by rw [h_qv3]; exact own_draw_lt _ _ 3 (by decide) rfl
  have K21 : ∀ t, Steps p.tables e below (T17.setTop (mkF m 33 #[.val (.int p1), .val (.int p2), .val (.int p3), .val (.int p4), .val (.int p5), .val (.int p6), .val (.int qv0), .val (.int qv1), .val (.int qv2), .val (.int qv3), .unset, .unset, .unset, .unset, .unset, .unset, .unset] [(.int (4 : Int32)), (.int p5)])) t → Steps p.tables e below G t := by
    intro t k
    refine K20 t ?_
    show Steps p.tables e below (T17.setTop (mkF m 28 #[.val (.int p1), .val (.int p2), .val (.int p3), .val (.int p4), .val (.int p5), .val (.int p6), .val (.int qv0), .val (.int qv1), .val (.int qv2), .unset, .unset, .unset, .unset, .unset, .unset, .unset, .unset] [(.int qv3)])) _
    refine XS.istore X17.here hx rfl (hb hby at_28) rfl (l' := #[.val (.int p1), .val (.int p2), .val (.int p3), .val (.int p4), .val (.int p5), .val (.int p6), .val (.int qv0), .val (.int qv1), .val (.int qv2), .val (.int qv3), .unset, .unset, .unset, .unset, .unset, .unset, .unset]) rfl ?_
    refine XS.iload X17.here hx rfl (hb hby at_30) rfl ?_
    refine XS.iconst X17.here hx rfl (hb hby at_32) ?_
    show Steps p.tables e below (T17.setTop (mkF m 33 #[.val (.int p1), .val (.int p2), .val (.int p3), .val (.int p4), .val (.int p5), .val (.int p6), .val (.int qv0), .val (.int qv1), .val (.int qv2), .val (.int qv3), .unset, .unset, .unset, .unset, .unset, .unset, .unset] [(.int (4 : Int32)), (.int p5)])) _
    exact k
  obtain ⟨_, _, ⟨T22, L22, kk22, nn22⟩, -, X22, ⟨Lc22, hQ22, lq22, yq22, zq22⟩, st22⟩ := Jvm.LawKit.callS X17 hx (y := (⟨"com/example/holdover/holdover/analysis/BreadthFirstPathPinLaw", "draw", "(II)I"⟩ : MethodName)) hown (mvT hZ (hw _ (List.mem_of_getElem? (i := 5) rfl))) (mvT hZ (hw _ (List.mem_of_getElem? (i := 6) rfl))) (mvT hZ (hw _ (List.mem_of_getElem? (i := 3) rfl))) (mvT hZ (hw _ (List.mem_of_getElem? (i := 7) rfl))) (by decide) (backOf (W := 0) (rm2 l Z a0 hw [] p5 (4 : Int32) h0 n0 Z0 (by decide)) hZ (hw _ (List.mem_of_getElem? (i := 7) rfl)) (hw _ (List.mem_of_getElem? (i := 3) rfl)) (by decide) (by decide)) (g := (mkF m 33 #[.val (.int p1), .val (.int p2), .val (.int p3), .val (.int p4), .val (.int p5), .val (.int p6), .val (.int qv0), .val (.int qv1), .val (.int qv2), .val (.int qv3), .unset, .unset, .unset, .unset, .unset, .unset, .unset] [(.int (4 : Int32)), (.int p5)])) rfl (by rw [hml]; rfl) (argsL := [(.int p5), (.int (4 : Int32))]) (rest := []) (lenOf pd_1 rfl) rfl (by show 2 * 0 + _ ≤ _; exact Nat.le_of_eq rfl) (hb hby at_33) (fun _ _ => ⟨rfl, e17, (by decide : 0 + 0 ≤ _), (by decide : 0 + 0 ≤ _)⟩)
  dsimp only [Pt.U, Pt.locs, Pt.cells, Pt.slots] at X22 lq22 yq22 zq22 st22 hQ22
  subst lq22 yq22 zq22
  obtain ⟨rfl, Nq22, e22⟩ := hQ22
  have N23 := Fr.app N18 Nq22
  have K24 : ∀ t, Steps p.tables e below (T22.setTop (mkF m 36 #[.val (.int p1), .val (.int p2), .val (.int p3), .val (.int p4), .val (.int p5), .val (.int p6), .val (.int qv0), .val (.int qv1), .val (.int qv2), .val (.int qv3), .unset, .unset, .unset, .unset, .unset, .unset, .unset] [(.int (own_draw p5 (4 : Int32)))])) t → Steps p.tables e below G t := fun t k => K21 t (st22 _ k)
  obtain ⟨qv4, h_qv4⟩ : ∃ z : Int32, z = (own_draw p5 (4 : Int32)) := ⟨_, rfl⟩
  have K25 : ∀ t, Steps p.tables e below (T22.setTop (mkF m 36 #[.val (.int p1), .val (.int p2), .val (.int p3), .val (.int p4), .val (.int p5), .val (.int p6), .val (.int qv0), .val (.int qv1), .val (.int qv2), .val (.int qv3), .unset, .unset, .unset, .unset, .unset, .unset, .unset] [(.int qv4)])) t → Steps p.tables e below G t := by rw [h_qv4]; exact K24
  have hq4 : qv4 < 4 := by rw [h_qv4]; exact own_draw_lt _ _ 4 (by decide) rfl
  have K26 : ∀ t, Steps p.tables e below (T22.setTop (mkF m 39 #[.val (.int p1), .val (.int p2), .val (.int p3), .val (.int p4), .val (.int p5), .val (.int p6), .val (.int qv0), .val (.int qv1), .val (.int qv2), .val (.int qv3), .val (.int qv4), .unset, .unset, .unset, .unset, .unset, .unset] [(.int (5 : Int32))])) t → Steps p.tables e below G t := by
    intro t k
    refine K25 t ?_
    show Steps p.tables e below (T22.setTop (mkF m 36 #[.val (.int p1), .val (.int p2), .val (.int p3), .val (.int p4), .val (.int p5), .val (.int p6), .val (.int qv0), .val (.int qv1), .val (.int qv2), .val (.int qv3), .unset, .unset, .unset, .unset, .unset, .unset, .unset] [(.int qv4)])) _
    refine XS.istore X22.here hx rfl (hb hby at_36) rfl (l' := #[.val (.int p1), .val (.int p2), .val (.int p3), .val (.int p4), .val (.int p5), .val (.int p6), .val (.int qv0), .val (.int qv1), .val (.int qv2), .val (.int qv3), .val (.int qv4), .unset, .unset, .unset, .unset, .unset, .unset]) rfl ?_
    refine XS.iconst X22.here hx rfl (hb hby at_38) ?_
    show Steps p.tables e below (T22.setTop (mkF m 39 #[.val (.int p1), .val (.int p2), .val (.int p3), .val (.int p4), .val (.int p5), .val (.int p6), .val (.int qv0), .val (.int qv1), .val (.int qv2), .val (.int qv3), .val (.int qv4), .unset, .unset, .unset, .unset, .unset, .unset] [(.int (5 : Int32))])) _
    exact k
  obtain ⟨T27, h27, kn27, X27, e27, E27, A27, st27⟩ := newP X22 hx hZ (hw _ (List.mem_of_getElem? (i := 8) rfl)) e22 (g := (mkF m 39 #[.val (.int p1), .val (.int p2), .val (.int p3), .val (.int p4), .val (.int p5), .val (.int p6), .val (.int qv0), .val (.int qv1), .val (.int qv2), .val (.int qv3), .val (.int qv4), .unset, .unset, .unset, .unset, .unset, .unset] [(.int (5 : Int32))])) rfl (hb hby at_39) rfl (by decide) (cap := 5) (by decide) (by decide) (by decide) (by decide)
  obtain ⟨b27, g27⟩ : ∃ z, z = h0.size := ⟨_, rfl⟩
  rw [← g27] at A27 st27
  have g_b27 : n0 ≤ b27 := Nat.le_trans Z0 (Nat.le_of_eq g27.symm)
  have sz_b27 : h0.size ≤ b27 := Nat.le_trans KP0.1 (Nat.le_of_eq g27.symm)
  have Z28 : n0 ≤ h27.size := Nat.le_trans Z0 E27.1
  have KP29 : Keep h0 h27 [] := KP0.ext E27
  have K30 : ∀ t, Steps p.tables e below (T27.setTop (mkF m 41 #[.val (.int p1), .val (.int p2), .val (.int p3), .val (.int p4), .val (.int p5), .val (.int p6), .val (.int qv0), .val (.int qv1), .val (.int qv2), .val (.int qv3), .val (.int qv4), .unset, .unset, .unset, .unset, .unset, .unset] [(.ref b27)])) t → Steps p.tables e below G t := fun t k => K26 t (st27 t k)
  have V27 : Arv Z h27 b27 kn27 .int (5 : Int32) [(.int (0 : Int32)), (.int (0 : Int32)), (.int (0 : Int32)), (.int (0 : Int32)), (.int (0 : Int32))] (.int (0 : Int32)) := (Arv.new A27 (by decide)).pad (pad_rep [] (.int (0 : Int32)) 5)
  have K31 : ∀ t, Steps p.tables e below (T27.setTop (mkF m 48 #[.val (.int p1), .val (.int p2), .val (.int p3), .val (.int p4), .val (.int p5), .val (.int p6), .val (.int qv0), .val (.int qv1), .val (.int qv2), .val (.int qv3), .val (.int qv4), .val (.ref b27), .unset, .unset, .unset, .unset, .unset] [(.int qv0), (.int (0 : Int32)), (.ref b27)])) t → Steps p.tables e below G t := by
    intro t k
    refine K30 t ?_
    show Steps p.tables e below (T27.setTop (mkF m 41 #[.val (.int p1), .val (.int p2), .val (.int p3), .val (.int p4), .val (.int p5), .val (.int p6), .val (.int qv0), .val (.int qv1), .val (.int qv2), .val (.int qv3), .val (.int qv4), .unset, .unset, .unset, .unset, .unset, .unset] [(.ref b27)])) _
    refine XS.astore X27.here hx rfl (hb hby at_41) rfl rfl (l' := #[.val (.int p1), .val (.int p2), .val (.int p3), .val (.int p4), .val (.int p5), .val (.int p6), .val (.int qv0), .val (.int qv1), .val (.int qv2), .val (.int qv3), .val (.int qv4), .val (.ref b27), .unset, .unset, .unset, .unset, .unset]) rfl ?_
    refine XS.aload X27.here hx rfl (hb hby at_43) rfl rfl ?_
    refine XS.iconst X27.here hx rfl (hb hby at_45) ?_
    refine XS.iload X27.here hx rfl (hb hby at_46) rfl ?_
    show Steps p.tables e below (T27.setTop (mkF m 48 #[.val (.int p1), .val (.int p2), .val (.int p3), .val (.int p4), .val (.int p5), .val (.int p6), .val (.int qv0), .val (.int qv1), .val (.int qv2), .val (.int qv3), .val (.int qv4), .val (.ref b27), .unset, .unset, .unset, .unset, .unset] [(.int qv0), (.int (0 : Int32)), (.ref b27)])) _
    exact k
  obtain ⟨cl32, Ar32, qc32, S32, M32, Ha32, Ga32⟩ := id V27
  have hin32 : ¬ ((0 : Int32) < 0 ∨ cl32.slots.size ≤ ((0 : Int32)).toNatClampNeg) := inb_of S32 ⟨by decide, by decide⟩
  obtain ⟨T32, h32, X32, e32, W32, st32⟩ := stI X27 hx hZ e27 Ar32 (j := (0 : Int32)) hin32 (g := (mkF m 48 #[.val (.int p1), .val (.int p2), .val (.int p3), .val (.int p4), .val (.int p5), .val (.int p6), .val (.int qv0), .val (.int qv1), .val (.int qv2), .val (.int qv3), .val (.int qv4), .val (.ref b27), .unset, .unset, .unset, .unset, .unset] [(.int qv0), (.int (0 : Int32)), (.ref b27)])) rfl rfl (hb hby at_48)
  have V32 : Arv Z h32 b27 kn27 .int (5 : Int32) [(.int qv0), (.int (0 : Int32)), (.int (0 : Int32)), (.int (0 : Int32)), (.int (0 : Int32))] (.int (0 : Int32)) := Arv.set Ar32 qc32 S32 M32 Ha32 Ga32 rfl W32 0 rfl (Nat.le_of_ble_eq_true rfl)
  have K33 : ∀ t, Steps p.tables e below (T32.setTop (mkF m 49 #[.val (.int p1), .val (.int p2), .val (.int p3), .val (.int p4), .val (.int p5), .val (.int p6), .val (.int qv0), .val (.int qv1), .val (.int qv2), .val (.int qv3), .val (.int qv4), .val (.ref b27), .unset, .unset, .unset, .unset, .unset] [])) t → Steps p.tables e below G t := fun t k => K31 t (st32 t k)
  have Z34 : n0 ≤ h32.size := Nat.le_trans Z28 (Keep.of_wr W32).1
  have KP35 : Keep h0 h32 [] := KP29.wr W32 (Or.inr sz_b27)
  have N36 := Fr.snoc X32 N23 g_b27
  have K37 : ∀ t, Steps p.tables e below (T32.setTop (mkF m 54 #[.val (.int p1), .val (.int p2), .val (.int p3), .val (.int p4), .val (.int p5), .val (.int p6), .val (.int qv0), .val (.int qv1), .val (.int qv2), .val (.int qv3), .val (.int qv4), .val (.ref b27), .unset, .unset, .unset, .unset, .unset] [(.int qv1), (.int (1 : Int32)), (.ref b27)])) t → Steps p.tables e below G t := by
    intro t k
    refine K33 t ?_
    show Steps p.tables e below (T32.setTop (mkF m 49 #[.val (.int p1), .val (.int p2), .val (.int p3), .val (.int p4), .val (.int p5), .val (.int p6), .val (.int qv0), .val (.int qv1), .val (.int qv2), .val (.int qv3), .val (.int qv4), .val (.ref b27), .unset, .unset, .unset, .unset, .unset] [])) _
    refine XS.aload X32.here hx rfl (hb hby at_49) rfl rfl ?_
    refine XS.iconst X32.here hx rfl (hb hby at_51) ?_
    refine XS.iload X32.here hx rfl (hb hby at_52) rfl ?_
    show Steps p.tables e below (T32.setTop (mkF m 54 #[.val (.int p1), .val (.int p2), .val (.int p3), .val (.int p4), .val (.int p5), .val (.int p6), .val (.int qv0), .val (.int qv1), .val (.int qv2), .val (.int qv3), .val (.int qv4), .val (.ref b27), .unset, .unset, .unset, .unset, .unset] [(.int qv1), (.int (1 : Int32)), (.ref b27)])) _
    exact k
  obtain ⟨cl38, Ar38, qc38, S38, M38, Ha38, Ga38⟩ := id V32
  have hin38 : ¬ ((1 : Int32) < 0 ∨ cl38.slots.size ≤ ((1 : Int32)).toNatClampNeg) := inb_of S38 ⟨by decide, by decide⟩
  obtain ⟨T38, h38, X38, e38, W38, st38⟩ := stI X32 hx hZ e32 Ar38 (j := (1 : Int32)) hin38 (g := (mkF m 54 #[.val (.int p1), .val (.int p2), .val (.int p3), .val (.int p4), .val (.int p5), .val (.int p6), .val (.int qv0), .val (.int qv1), .val (.int qv2), .val (.int qv3), .val (.int qv4), .val (.ref b27), .unset, .unset, .unset, .unset, .unset] [(.int qv1), (.int (1 : Int32)), (.ref b27)])) rfl rfl (hb hby at_54)
  have V38 : Arv Z h38 b27 kn27 .int (5 : Int32) [(.int qv0), (.int qv1), (.int (0 : Int32)), (.int (0 : Int32)), (.int (0 : Int32))] (.int (0 : Int32)) := Arv.set Ar38 qc38 S38 M38 Ha38 Ga38 rfl W38 1 rfl (Nat.le_of_ble_eq_true rfl)
  have K39 : ∀ t, Steps p.tables e below (T38.setTop (mkF m 55 #[.val (.int p1), .val (.int p2), .val (.int p3), .val (.int p4), .val (.int p5), .val (.int p6), .val (.int qv0), .val (.int qv1), .val (.int qv2), .val (.int qv3), .val (.int qv4), .val (.ref b27), .unset, .unset, .unset, .unset, .unset] [])) t → Steps p.tables e below G t := fun t k => K37 t (st38 t k)
  have Z40 : n0 ≤ h38.size := Nat.le_trans Z34 (Keep.of_wr W38).1
  have KP41 : Keep h0 h38 [] := KP35.wr W38 (Or.inr sz_b27)
  have N42 := Fr.snoc X38 N36 g_b27
  have K43 : ∀ t, Steps p.tables e below (T38.setTop (mkF m 60 #[.val (.int p1), .val (.int p2), .val (.int p3), .val (.int p4), .val (.int p5), .val (.int p6), .val (.int qv0), .val (.int qv1), .val (.int qv2), .val (.int qv3), .val (.int qv4), .val (.ref b27), .unset, .unset, .unset, .unset, .unset] [(.int qv2), (.int (2 : Int32)), (.ref b27)])) t → Steps p.tables e below G t := by
    intro t k
    refine K39 t ?_
    show Steps p.tables e below (T38.setTop (mkF m 55 #[.val (.int p1), .val (.int p2), .val (.int p3), .val (.int p4), .val (.int p5), .val (.int p6), .val (.int qv0), .val (.int qv1), .val (.int qv2), .val (.int qv3), .val (.int qv4), .val (.ref b27), .unset, .unset, .unset, .unset, .unset] [])) _
    refine XS.aload X38.here hx rfl (hb hby at_55) rfl rfl ?_
    refine XS.iconst X38.here hx rfl (hb hby at_57) ?_
    refine XS.iload X38.here hx rfl (hb hby at_58) rfl ?_
    show Steps p.tables e below (T38.setTop (mkF m 60 #[.val (.int p1), .val (.int p2), .val (.int p3), .val (.int p4), .val (.int p5), .val (.int p6), .val (.int qv0), .val (.int qv1), .val (.int qv2), .val (.int qv3), .val (.int qv4), .val (.ref b27), .unset, .unset, .unset, .unset, .unset] [(.int qv2), (.int (2 : Int32)), (.ref b27)])) _
    exact k
  obtain ⟨cl44, Ar44, qc44, S44, M44, Ha44, Ga44⟩ := id V38
  have hin44 : ¬ ((2 : Int32) < 0 ∨ cl44.slots.size ≤ ((2 : Int32)).toNatClampNeg) := inb_of S44 ⟨by decide, by decide⟩
  obtain ⟨T44, h44, X44, e44, W44, st44⟩ := stI X38 hx hZ e38 Ar44 (j := (2 : Int32)) hin44 (g := (mkF m 60 #[.val (.int p1), .val (.int p2), .val (.int p3), .val (.int p4), .val (.int p5), .val (.int p6), .val (.int qv0), .val (.int qv1), .val (.int qv2), .val (.int qv3), .val (.int qv4), .val (.ref b27), .unset, .unset, .unset, .unset, .unset] [(.int qv2), (.int (2 : Int32)), (.ref b27)])) rfl rfl (hb hby at_60)
  have V44 : Arv Z h44 b27 kn27 .int (5 : Int32) [(.int qv0), (.int qv1), (.int qv2), (.int (0 : Int32)), (.int (0 : Int32))] (.int (0 : Int32)) := Arv.set Ar44 qc44 S44 M44 Ha44 Ga44 rfl W44 2 rfl (Nat.le_of_ble_eq_true rfl)
  have K45 : ∀ t, Steps p.tables e below (T44.setTop (mkF m 61 #[.val (.int p1), .val (.int p2), .val (.int p3), .val (.int p4), .val (.int p5), .val (.int p6), .val (.int qv0), .val (.int qv1), .val (.int qv2), .val (.int qv3), .val (.int qv4), .val (.ref b27), .unset, .unset, .unset, .unset, .unset] [])) t → Steps p.tables e below G t := fun t k => K43 t (st44 t k)
  have Z46 : n0 ≤ h44.size := Nat.le_trans Z40 (Keep.of_wr W44).1
  have KP47 : Keep h0 h44 [] := KP41.wr W44 (Or.inr sz_b27)
  have N48 := Fr.snoc X44 N42 g_b27
  have K49 : ∀ t, Steps p.tables e below (T44.setTop (mkF m 66 #[.val (.int p1), .val (.int p2), .val (.int p3), .val (.int p4), .val (.int p5), .val (.int p6), .val (.int qv0), .val (.int qv1), .val (.int qv2), .val (.int qv3), .val (.int qv4), .val (.ref b27), .unset, .unset, .unset, .unset, .unset] [(.int qv3), (.int (3 : Int32)), (.ref b27)])) t → Steps p.tables e below G t := by
    intro t k
    refine K45 t ?_
    show Steps p.tables e below (T44.setTop (mkF m 61 #[.val (.int p1), .val (.int p2), .val (.int p3), .val (.int p4), .val (.int p5), .val (.int p6), .val (.int qv0), .val (.int qv1), .val (.int qv2), .val (.int qv3), .val (.int qv4), .val (.ref b27), .unset, .unset, .unset, .unset, .unset] [])) _
    refine XS.aload X44.here hx rfl (hb hby at_61) rfl rfl ?_
    refine XS.iconst X44.here hx rfl (hb hby at_63) ?_
    refine XS.iload X44.here hx rfl (hb hby at_64) rfl ?_
    show Steps p.tables e below (T44.setTop (mkF m 66 #[.val (.int p1), .val (.int p2), .val (.int p3), .val (.int p4), .val (.int p5), .val (.int p6), .val (.int qv0), .val (.int qv1), .val (.int qv2), .val (.int qv3), .val (.int qv4), .val (.ref b27), .unset, .unset, .unset, .unset, .unset] [(.int qv3), (.int (3 : Int32)), (.ref b27)])) _
    exact k
  obtain ⟨cl50, Ar50, qc50, S50, M50, Ha50, Ga50⟩ := id V44
  have hin50 : ¬ ((3 : Int32) < 0 ∨ cl50.slots.size ≤ ((3 : Int32)).toNatClampNeg) := inb_of S50 ⟨by decide, by decide⟩
  obtain ⟨T50, h50, X50, e50, W50, st50⟩ := stI X44 hx hZ e44 Ar50 (j := (3 : Int32)) hin50 (g := (mkF m 66 #[.val (.int p1), .val (.int p2), .val (.int p3), .val (.int p4), .val (.int p5), .val (.int p6), .val (.int qv0), .val (.int qv1), .val (.int qv2), .val (.int qv3), .val (.int qv4), .val (.ref b27), .unset, .unset, .unset, .unset, .unset] [(.int qv3), (.int (3 : Int32)), (.ref b27)])) rfl rfl (hb hby at_66)
  have V50 : Arv Z h50 b27 kn27 .int (5 : Int32) [(.int qv0), (.int qv1), (.int qv2), (.int qv3), (.int (0 : Int32))] (.int (0 : Int32)) := Arv.set Ar50 qc50 S50 M50 Ha50 Ga50 rfl W50 3 rfl (Nat.le_of_ble_eq_true rfl)
  have K51 : ∀ t, Steps p.tables e below (T50.setTop (mkF m 67 #[.val (.int p1), .val (.int p2), .val (.int p3), .val (.int p4), .val (.int p5), .val (.int p6), .val (.int qv0), .val (.int qv1), .val (.int qv2), .val (.int qv3), .val (.int qv4), .val (.ref b27), .unset, .unset, .unset, .unset, .unset] [])) t → Steps p.tables e below G t := fun t k => K49 t (st50 t k)
  have Z52 : n0 ≤ h50.size := Nat.le_trans Z46 (Keep.of_wr W50).1
  have KP53 : Keep h0 h50 [] := KP47.wr W50 (Or.inr sz_b27)
  have N54 := Fr.snoc X50 N48 g_b27
  have K55 : ∀ t, Steps p.tables e below (T50.setTop (mkF m 72 #[.val (.int p1), .val (.int p2), .val (.int p3), .val (.int p4), .val (.int p5), .val (.int p6), .val (.int qv0), .val (.int qv1), .val (.int qv2), .val (.int qv3), .val (.int qv4), .val (.ref b27), .unset, .unset, .unset, .unset, .unset] [(.int qv4), (.int (4 : Int32)), (.ref b27)])) t → Steps p.tables e below G t := by
    intro t k
    refine K51 t ?_
    show Steps p.tables e below (T50.setTop (mkF m 67 #[.val (.int p1), .val (.int p2), .val (.int p3), .val (.int p4), .val (.int p5), .val (.int p6), .val (.int qv0), .val (.int qv1), .val (.int qv2), .val (.int qv3), .val (.int qv4), .val (.ref b27), .unset, .unset, .unset, .unset, .unset] [])) _
    refine XS.aload X50.here hx rfl (hb hby at_67) rfl rfl ?_
    refine XS.iconst X50.here hx rfl (hb hby at_69) ?_
    refine XS.iload X50.here hx rfl (hb hby at_70) rfl ?_
    show Steps p.tables e below (T50.setTop (mkF m 72 #[.val (.int p1), .val (.int p2), .val (.int p3), .val (.int p4), .val (.int p5), .val (.int p6), .val (.int qv0), .val (.int qv1), .val (.int qv2), .val (.int qv3), .val (.int qv4), .val (.ref b27), .unset, .unset, .unset, .unset, .unset] [(.int qv4), (.int (4 : Int32)), (.ref b27)])) _
    exact k
  obtain ⟨cl56, Ar56, qc56, S56, M56, Ha56, Ga56⟩ := id V50
  have hin56 : ¬ ((4 : Int32) < 0 ∨ cl56.slots.size ≤ ((4 : Int32)).toNatClampNeg) := inb_of S56 ⟨by decide, by decide⟩
  obtain ⟨T56, h56, X56, e56, W56, st56⟩ := stI X50 hx hZ e50 Ar56 (j := (4 : Int32)) hin56 (g := (mkF m 72 #[.val (.int p1), .val (.int p2), .val (.int p3), .val (.int p4), .val (.int p5), .val (.int p6), .val (.int qv0), .val (.int qv1), .val (.int qv2), .val (.int qv3), .val (.int qv4), .val (.ref b27), .unset, .unset, .unset, .unset, .unset] [(.int qv4), (.int (4 : Int32)), (.ref b27)])) rfl rfl (hb hby at_72)
  have V56 : Arv Z h56 b27 kn27 .int (5 : Int32) [(.int qv0), (.int qv1), (.int qv2), (.int qv3), (.int qv4)] (.int (0 : Int32)) := Arv.set Ar56 qc56 S56 M56 Ha56 Ga56 rfl W56 4 rfl (Nat.le_of_ble_eq_true rfl)
  have K57 : ∀ t, Steps p.tables e below (T56.setTop (mkF m 73 #[.val (.int p1), .val (.int p2), .val (.int p3), .val (.int p4), .val (.int p5), .val (.int p6), .val (.int qv0), .val (.int qv1), .val (.int qv2), .val (.int qv3), .val (.int qv4), .val (.ref b27), .unset, .unset, .unset, .unset, .unset] [])) t → Steps p.tables e below G t := fun t k => K55 t (st56 t k)
  have Z58 : n0 ≤ h56.size := Nat.le_trans Z52 (Keep.of_wr W56).1
  have KP59 : Keep h0 h56 [] := KP53.wr W56 (Or.inr sz_b27)
  have N60 := Fr.snoc X56 N54 g_b27
  have K61 : ∀ t, Steps p.tables e below (T56.setTop (mkF m 86 #[.val (.int p1), .val (.int p2), .val (.int p3), .val (.int p4), .val (.int p5), .val (.int p6), .val (.int qv0), .val (.int qv1), .val (.int qv2), .val (.int qv3), .val (.int qv4), .val (.ref b27), .val (.int ((p6 &&& (2147483647 : Int32)) % (5 : Int32))), .unset, .unset, .unset, .unset] [(.int ((p6 &&& (2147483647 : Int32)) % (5 : Int32))), (.ref b27)])) t → Steps p.tables e below G t := by
    intro t k
    refine K57 t ?_
    show Steps p.tables e below (T56.setTop (mkF m 73 #[.val (.int p1), .val (.int p2), .val (.int p3), .val (.int p4), .val (.int p5), .val (.int p6), .val (.int qv0), .val (.int qv1), .val (.int qv2), .val (.int qv3), .val (.int qv4), .val (.ref b27), .unset, .unset, .unset, .unset, .unset] [])) _
    refine XS.iload X56.here hx rfl (hb hby at_73) rfl ?_
    refine X56.ldcInt hx hown (mvT hZ (hw _ (List.mem_of_getElem? (i := 9) rfl))) (g := (mkF m 75 #[.val (.int p1), .val (.int p2), .val (.int p3), .val (.int p4), .val (.int p5), .val (.int p6), .val (.int qv0), .val (.int qv1), .val (.int qv2), .val (.int qv3), .val (.int qv4), .val (.ref b27), .unset, .unset, .unset, .unset, .unset] [(.int p6)])) rfl (hb hby at_75) _ ?_
    refine XS.iand X56.here hx rfl (hb hby at_77) rfl ?_
    refine XS.iconst X56.here hx rfl (hb hby at_78) ?_
    show Steps p.tables e below (T56.setTop (mkF m 79 #[.val (.int p1), .val (.int p2), .val (.int p3), .val (.int p4), .val (.int p5), .val (.int p6), .val (.int qv0), .val (.int qv1), .val (.int qv2), .val (.int qv3), .val (.int qv4), .val (.ref b27), .unset, .unset, .unset, .unset, .unset] [(.int (5 : Int32)), (.int (p6 &&& (2147483647 : Int32)))])) _
    refine iremM X56 hx rfl (hb hby at_79) rfl (by decide) ?_
    refine XS.istore X56.here hx rfl (hb hby at_80) rfl (l' := #[.val (.int p1), .val (.int p2), .val (.int p3), .val (.int p4), .val (.int p5), .val (.int p6), .val (.int qv0), .val (.int qv1), .val (.int qv2), .val (.int qv3), .val (.int qv4), .val (.ref b27), .val (.int ((p6 &&& (2147483647 : Int32)) % (5 : Int32))), .unset, .unset, .unset, .unset]) rfl ?_
    refine XS.aload X56.here hx rfl (hb hby at_82) rfl rfl ?_
    refine XS.iload X56.here hx rfl (hb hby at_84) rfl ?_
    show Steps p.tables e below (T56.setTop (mkF m 86 #[.val (.int p1), .val (.int p2), .val (.int p3), .val (.int p4), .val (.int p5), .val (.int p6), .val (.int qv0), .val (.int qv1), .val (.int qv2), .val (.int qv3), .val (.int qv4), .val (.ref b27), .val (.int ((p6 &&& (2147483647 : Int32)) % (5 : Int32))), .unset, .unset, .unset, .unset] [(.int ((p6 &&& (2147483647 : Int32)) % (5 : Int32))), (.ref b27)])) _
    exact k
  obtain ⟨_, _, ⟨T62, L62, kk62, nn62⟩, -, X62, ⟨Lc62, hQ62, lq62, yq62, zq62⟩, st62⟩ := Jvm.LawKit.callS X56 hx (y := (⟨"com/example/holdover/holdover/analysis/BreadthFirst", "path", "([II)[I"⟩ : MethodName)) hown (mvT hZ (hw _ (List.mem_of_getElem? (i := 10) rfl))) (mvT hZ (hw _ (List.mem_of_getElem? (i := 11) rfl))) (mvT hZ (hw _ (List.mem_of_getElem? (i := 12) rfl))) (mvT hZ (hw _ (List.mem_of_getElem? (i := 13) rfl))) (by decide) (backOf (W := 0) (rm3 l Z a0 hw [] b27 ((p6 &&& (2147483647 : Int32)) % (5 : Int32)) kn27 qv0 qv1 qv2 qv3 qv4 h56 n0 Z58 V56 (own_rng _) hq0 hq1 hq2 hq3 hq4) hZ (hw _ (List.mem_of_getElem? (i := 13) rfl)) (hw _ (List.mem_of_getElem? (i := 12) rfl)) (by decide) (by decide)) (g := (mkF m 86 #[.val (.int p1), .val (.int p2), .val (.int p3), .val (.int p4), .val (.int p5), .val (.int p6), .val (.int qv0), .val (.int qv1), .val (.int qv2), .val (.int qv3), .val (.int qv4), .val (.ref b27), .val (.int ((p6 &&& (2147483647 : Int32)) % (5 : Int32))), .unset, .unset, .unset, .unset] [(.int ((p6 &&& (2147483647 : Int32)) % (5 : Int32))), (.ref b27)])) rfl (by rw [hml]; rfl) (argsL := [(.ref b27), (.int ((p6 &&& (2147483647 : Int32)) % (5 : Int32)))]) (rest := []) (lenOf pd_2 rfl) rfl (by show 2 * 0 + _ ≤ _; exact Nat.le_of_eq rfl) (hb hby at_86) (fun _ _ => ⟨rfl, e56, (by decide : 1 + 1 ≤ _), (by decide : 5 + 5 ≤ _)⟩)
  dsimp only [Pt.U, Pt.locs, Pt.cells, Pt.slots] at X62 lq62 yq62 zq62 st62 hQ62
  subst lq62 yq62 zq62
  obtain ⟨b62, k62', z62', vs62, rfl, Nq62, K62, sz62, VP62, hz62, hi62, ho62, hl0, hl1, hl2, hl3, hl4⟩ := hQ62
  have N63 := Fr.app N60 Nq62
  have ne_b27_b62 : b27 ≠ b62 := Nat.ne_of_lt (Nat.lt_of_lt_of_le V56.lt sz62)
  have f64 := V56.keep K62 nin0
  have Z65 : n0 ≤ T62.heap.size := Nat.le_trans Z58 K62.1
  have KP66 : Keep h0 T62.heap [] := KP59.trans K62 all0
  have K67 : ∀ t, Steps p.tables e below (T62.setTop (mkF m 89 #[.val (.int p1), .val (.int p2), .val (.int p3), .val (.int p4), .val (.int p5), .val (.int p6), .val (.int qv0), .val (.int qv1), .val (.int qv2), .val (.int qv3), .val (.int qv4), .val (.ref b27), .val (.int ((p6 &&& (2147483647 : Int32)) % (5 : Int32))), .unset, .unset, .unset, .unset] [(.ref b62)])) t → Steps p.tables e below G t := fun t k => K61 t (st62 _ k)
  have K68 : ∀ t, Steps p.tables e below (T62.setTop (mkF m 100 #[.val (.int p1), .val (.int p2), .val (.int p3), .val (.int p4), .val (.int p5), .val (.int p6), .val (.int qv0), .val (.int qv1), .val (.int qv2), .val (.int qv3), .val (.int qv4), .val (.ref b27), .val (.int ((p6 &&& (2147483647 : Int32)) % (5 : Int32))), .val (.ref b62), .unset, .unset, .unset] [(.ref b62)])) t → Steps p.tables e below G t := by
    intro t k
    refine K67 t ?_
    show Steps p.tables e below (T62.setTop (mkF m 89 #[.val (.int p1), .val (.int p2), .val (.int p3), .val (.int p4), .val (.int p5), .val (.int p6), .val (.int qv0), .val (.int qv1), .val (.int qv2), .val (.int qv3), .val (.int qv4), .val (.ref b27), .val (.int ((p6 &&& (2147483647 : Int32)) % (5 : Int32))), .unset, .unset, .unset, .unset] [(.ref b62)])) _
    refine XS.astore X62.here hx rfl (hb hby at_89) rfl rfl (l' := #[.val (.int p1), .val (.int p2), .val (.int p3), .val (.int p4), .val (.int p5), .val (.int p6), .val (.int qv0), .val (.int qv1), .val (.int qv2), .val (.int qv3), .val (.int qv4), .val (.ref b27), .val (.int ((p6 &&& (2147483647 : Int32)) % (5 : Int32))), .val (.ref b62), .unset, .unset, .unset]) rfl ?_
    refine XS.aload X62.here hx rfl (hb hby at_91) rfl rfl ?_
    refine XS.ifnonnullYes X62.here hx rfl (pc0 := 93) (pc' := 98) rfl (hb hby at_93) rfl (by decide) (by decide) ?_
    refine XS.aload X62.here hx rfl (hb hby at_98) rfl rfl ?_
    show Steps p.tables e below (T62.setTop (mkF m 100 #[.val (.int p1), .val (.int p2), .val (.int p3), .val (.int p4), .val (.int p5), .val (.int p6), .val (.int qv0), .val (.int qv1), .val (.int qv2), .val (.int qv3), .val (.int qv4), .val (.ref b27), .val (.int ((p6 &&& (2147483647 : Int32)) % (5 : Int32))), .val (.ref b62), .unset, .unset, .unset] [(.ref b62)])) _
    exact k
  obtain ⟨cl69, Ar69, -, S69, M69, -, -⟩ := id VP62
  have K70 : ∀ t, Steps p.tables e below (T62.setTop (mkF m 101 #[.val (.int p1), .val (.int p2), .val (.int p3), .val (.int p4), .val (.int p5), .val (.int p6), .val (.int qv0), .val (.int qv1), .val (.int qv2), .val (.int qv3), .val (.int qv4), .val (.ref b27), .val (.int ((p6 &&& (2147483647 : Int32)) % (5 : Int32))), .val (.ref b62), .unset, .unset, .unset] [(.int z62')])) t → Steps p.tables e below G t := by
    intro t k
    refine K68 t ?_
    refine X62.arraylength hx Ar69.1 (State.isArrayOf_alike hZ.alike Ar69.2.1) (g := (mkF m 100 #[.val (.int p1), .val (.int p2), .val (.int p3), .val (.int p4), .val (.int p5), .val (.int p6), .val (.int qv0), .val (.int qv1), .val (.int qv2), .val (.int qv3), .val (.int qv4), .val (.ref b27), .val (.int ((p6 &&& (2147483647 : Int32)) % (5 : Int32))), .val (.ref b62), .unset, .unset, .unset] [(.ref b62)])) rfl rfl (hb hby at_100) _ ?_
    rw [len_of S69 M69]
    exact k
  have K71 : ∀ t, Steps p.tables e below (T62.setTop (mkF m 123 #[.val (.int p1), .val (.int p2), .val (.int p3), .val (.int p4), .val (.int p5), .val (.int p6), .val (.int qv0), .val (.int qv1), .val (.int qv2), .val (.int qv3), .val (.int qv4), .val (.ref b27), .val (.int ((p6 &&& (2147483647 : Int32)) % (5 : Int32))), .val (.ref b62), .val (.int z62'), .unset, .unset] [(.int (z62' - (1 : Int32))), (.ref b62)])) t → Steps p.tables e below G t := by
    intro t k
    refine K70 t ?_
    show Steps p.tables e below (T62.setTop (mkF m 101 #[.val (.int p1), .val (.int p2), .val (.int p3), .val (.int p4), .val (.int p5), .val (.int p6), .val (.int qv0), .val (.int qv1), .val (.int qv2), .val (.int qv3), .val (.int qv4), .val (.ref b27), .val (.int ((p6 &&& (2147483647 : Int32)) % (5 : Int32))), .val (.ref b62), .unset, .unset, .unset] [(.int z62')])) _
    refine XS.istore X62.here hx rfl (hb hby at_101) rfl (l' := #[.val (.int p1), .val (.int p2), .val (.int p3), .val (.int p4), .val (.int p5), .val (.int p6), .val (.int qv0), .val (.int qv1), .val (.int qv2), .val (.int qv3), .val (.int qv4), .val (.ref b27), .val (.int ((p6 &&& (2147483647 : Int32)) % (5 : Int32))), .val (.ref b62), .val (.int z62'), .unset, .unset]) rfl ?_
    refine XS.iload X62.here hx rfl (hb hby at_103) rfl ?_
    refine XS.iconst X62.here hx rfl (hb hby at_105) ?_
    refine XS.icmpNo X62.here hx rfl (hb hby at_106) rfl (flt hz62.1).1 ?_
    show Steps p.tables e below (T62.setTop (mkF m 109 #[.val (.int p1), .val (.int p2), .val (.int p3), .val (.int p4), .val (.int p5), .val (.int p6), .val (.int qv0), .val (.int qv1), .val (.int qv2), .val (.int qv3), .val (.int qv4), .val (.ref b27), .val (.int ((p6 &&& (2147483647 : Int32)) % (5 : Int32))), .val (.ref b62), .val (.int z62'), .unset, .unset] [])) _
    refine XS.iload X62.here hx rfl (hb hby at_109) rfl ?_
    refine XS.iconst X62.here hx rfl (hb hby at_111) ?_
    refine XS.icmpYes X62.here hx rfl (pc0 := 112) (pc' := 117) rfl (hb hby at_112) rfl (flt hz62.2).2.2.2 (by decide) (by decide) ?_
    refine XS.aload X62.here hx rfl (hb hby at_117) rfl rfl ?_
    show Steps p.tables e below (T62.setTop (mkF m 119 #[.val (.int p1), .val (.int p2), .val (.int p3), .val (.int p4), .val (.int p5), .val (.int p6), .val (.int qv0), .val (.int qv1), .val (.int qv2), .val (.int qv3), .val (.int qv4), .val (.ref b27), .val (.int ((p6 &&& (2147483647 : Int32)) % (5 : Int32))), .val (.ref b62), .val (.int z62'), .unset, .unset] [(.ref b62)])) _
    refine XS.iload X62.here hx rfl (hb hby at_119) rfl ?_
    refine XS.iconst X62.here hx rfl (hb hby at_121) ?_
    refine XS.isub X62.here hx rfl (hb hby at_122) rfl ?_
    show Steps p.tables e below (T62.setTop (mkF m 123 #[.val (.int p1), .val (.int p2), .val (.int p3), .val (.int p4), .val (.int p5), .val (.int p6), .val (.int qv0), .val (.int qv1), .val (.int qv2), .val (.int qv3), .val (.int qv4), .val (.ref b27), .val (.int ((p6 &&& (2147483647 : Int32)) % (5 : Int32))), .val (.ref b62), .val (.int z62'), .unset, .unset] [(.int (z62' - (1 : Int32))), (.ref b62)])) _
    exact k
  obtain ⟨cl72, Ar72, qc72, S72, M72, Ha72, Ga72⟩ := id VP62
  have hin72 : ¬ ((z62' - (1 : Int32)) < 0 ∨ cl72.slots.size ≤ ((z62' - (1 : Int32))).toNatClampNeg) := inb_of S72 hi62
  have hat72 : cl72.slots[((z62' - (1 : Int32))).toNatClampNeg]? = some (.int ((p6 &&& (2147483647 : Int32)) % (5 : Int32))) := Ha72.at hin72 ho62
  have K73 : ∀ t, Steps p.tables e below (T62.setTop (mkF m 124 #[.val (.int p1), .val (.int p2), .val (.int p3), .val (.int p4), .val (.int p5), .val (.int p6), .val (.int qv0), .val (.int qv1), .val (.int qv2), .val (.int qv3), .val (.int qv4), .val (.ref b27), .val (.int ((p6 &&& (2147483647 : Int32)) % (5 : Int32))), .val (.ref b62), .val (.int z62'), .unset, .unset] [(.int ((p6 &&& (2147483647 : Int32)) % (5 : Int32)))])) t → Steps p.tables e below G t := fun t k => K71 t (X62.iaload hx (j := (z62' - (1 : Int32))) (v := (.int ((p6 &&& (2147483647 : Int32)) % (5 : Int32)))) Ar72.1 (State.isArrayOf_alike hZ.alike Ar72.2.1) Ar72.2.2 hin72 hat72 (g := (mkF m 123 #[.val (.int p1), .val (.int p2), .val (.int p3), .val (.int p4), .val (.int p5), .val (.int p6), .val (.int qv0), .val (.int qv1), .val (.int qv2), .val (.int qv3), .val (.int qv4), .val (.ref b27), .val (.int ((p6 &&& (2147483647 : Int32)) % (5 : Int32))), .val (.ref b62), .val (.int z62'), .unset, .unset] [(.int (z62' - (1 : Int32))), (.ref b62)])) rfl rfl (hb hby at_123) _ k)
  have K74 : ∀ t, Steps p.tables e below (T62.setTop (mkF m 136 #[.val (.int p1), .val (.int p2), .val (.int p3), .val (.int p4), .val (.int p5), .val (.int p6), .val (.int qv0), .val (.int qv1), .val (.int qv2), .val (.int qv3), .val (.int qv4), .val (.ref b27), .val (.int ((p6 &&& (2147483647 : Int32)) % (5 : Int32))), .val (.ref b62), .val (.int z62'), .unset, .unset] [(.int (0 : Int32)), (.ref b27), (.ref b62)])) t → Steps p.tables e below G t := by
    intro t k
    refine K73 t ?_
    show Steps p.tables e below (T62.setTop (mkF m 124 #[.val (.int p1), .val (.int p2), .val (.int p3), .val (.int p4), .val (.int p5), .val (.int p6), .val (.int qv0), .val (.int qv1), .val (.int qv2), .val (.int qv3), .val (.int qv4), .val (.ref b27), .val (.int ((p6 &&& (2147483647 : Int32)) % (5 : Int32))), .val (.ref b62), .val (.int z62'), .unset, .unset] [(.int ((p6 &&& (2147483647 : Int32)) % (5 : Int32)))])) _
    refine XS.iload X62.here hx rfl (hb hby at_124) rfl ?_
    refine XS.icmpYes X62.here hx rfl (pc0 := 126) (pc' := 131) rfl (hb hby at_126) rfl (teq (rfl : ((p6 &&& (2147483647 : Int32)) % (5 : Int32)) = ((p6 &&& (2147483647 : Int32)) % (5 : Int32)))).1 (by decide) (by decide) ?_
    refine XS.aload X62.here hx rfl (hb hby at_131) rfl rfl ?_
    refine XS.aload X62.here hx rfl (hb hby at_133) rfl rfl ?_
    show Steps p.tables e below (T62.setTop (mkF m 135 #[.val (.int p1), .val (.int p2), .val (.int p3), .val (.int p4), .val (.int p5), .val (.int p6), .val (.int qv0), .val (.int qv1), .val (.int qv2), .val (.int qv3), .val (.int qv4), .val (.ref b27), .val (.int ((p6 &&& (2147483647 : Int32)) % (5 : Int32))), .val (.ref b62), .val (.int z62'), .unset, .unset] [(.ref b27), (.ref b62)])) _
    refine XS.iconst X62.here hx rfl (hb hby at_135) ?_
    show Steps p.tables e below (T62.setTop (mkF m 136 #[.val (.int p1), .val (.int p2), .val (.int p3), .val (.int p4), .val (.int p5), .val (.int p6), .val (.int qv0), .val (.int qv1), .val (.int qv2), .val (.int qv3), .val (.int qv4), .val (.ref b27), .val (.int ((p6 &&& (2147483647 : Int32)) % (5 : Int32))), .val (.ref b62), .val (.int z62'), .unset, .unset] [(.int (0 : Int32)), (.ref b27), (.ref b62)])) _
    exact k
  obtain ⟨_, _, ⟨T75, L75, kk75, nn75⟩, -, X75, ⟨Lc75, hQ75, lq75, yq75, zq75⟩, st75⟩ := Jvm.LawKit.callS X62 hx (y := (⟨"com/example/holdover/holdover/analysis/BreadthFirstPathPinLaw", "link", "([I[II)Z"⟩ : MethodName)) hown (mvT hZ (hw _ (List.mem_of_getElem? (i := 14) rfl))) (mvT hZ (hw _ (List.mem_of_getElem? (i := 15) rfl))) (mvT hZ (hw _ (List.mem_of_getElem? (i := 3) rfl))) (mvT hZ (hw _ (List.mem_of_getElem? (i := 16) rfl))) (by decide) (backOf (W := 0) (rm4 l Z a0 hw [] b62 b27 (0 : Int32) k62' kn27 z62' vs62 [(.int qv0), (.int qv1), (.int qv2), (.int qv3), (.int qv4)] T62.heap n0 Z65 VP62 f64 hl0) hZ (hw _ (List.mem_of_getElem? (i := 16) rfl)) (hw _ (List.mem_of_getElem? (i := 3) rfl)) (by decide) (by decide)) (g := (mkF m 136 #[.val (.int p1), .val (.int p2), .val (.int p3), .val (.int p4), .val (.int p5), .val (.int p6), .val (.int qv0), .val (.int qv1), .val (.int qv2), .val (.int qv3), .val (.int qv4), .val (.ref b27), .val (.int ((p6 &&& (2147483647 : Int32)) % (5 : Int32))), .val (.ref b62), .val (.int z62'), .unset, .unset] [(.int (0 : Int32)), (.ref b27), (.ref b62)])) rfl (by rw [hml]; rfl) (argsL := [(.ref b62), (.ref b27), (.int (0 : Int32))]) (rest := []) (lenOf pd_3 rfl) rfl (by show 2 * 0 + _ ≤ _; exact Nat.le_of_eq rfl) (hb hby at_136) (fun _ _ => ⟨rfl, rfl, (by decide : 2 + 0 ≤ _), (by decide : 10 + 0 ≤ _)⟩)
  dsimp only [Pt.U, Pt.locs, Pt.cells, Pt.slots] at X75 lq75 yq75 zq75 st75 hQ75
  subst lq75 yq75 zq75
  obtain ⟨rfl, Nq75, e75⟩ := hQ75
  have N76 := Fr.app N63 Nq75
  have K77 : ∀ t, Steps p.tables e below (T75.setTop (mkF m 139 #[.val (.int p1), .val (.int p2), .val (.int p3), .val (.int p4), .val (.int p5), .val (.int p6), .val (.int qv0), .val (.int qv1), .val (.int qv2), .val (.int qv3), .val (.int qv4), .val (.ref b27), .val (.int ((p6 &&& (2147483647 : Int32)) % (5 : Int32))), .val (.ref b62), .val (.int z62'), .unset, .unset] [(.int (1 : Int32))])) t → Steps p.tables e below G t := fun t k => K74 t (st75 _ k)
  have K78 : ∀ t, Steps p.tables e below (T75.setTop (mkF m 147 #[.val (.int p1), .val (.int p2), .val (.int p3), .val (.int p4), .val (.int p5), .val (.int p6), .val (.int qv0), .val (.int qv1), .val (.int qv2), .val (.int qv3), .val (.int qv4), .val (.ref b27), .val (.int ((p6 &&& (2147483647 : Int32)) % (5 : Int32))), .val (.ref b62), .val (.int z62'), .unset, .unset] [(.int (1 : Int32)), (.ref b27), (.ref b62)])) t → Steps p.tables e below G t := by
    intro t k
    refine K77 t ?_
    show Steps p.tables e below (T75.setTop (mkF m 139 #[.val (.int p1), .val (.int p2), .val (.int p3), .val (.int p4), .val (.int p5), .val (.int p6), .val (.int qv0), .val (.int qv1), .val (.int qv2), .val (.int qv3), .val (.int qv4), .val (.ref b27), .val (.int ((p6 &&& (2147483647 : Int32)) % (5 : Int32))), .val (.ref b62), .val (.int z62'), .unset, .unset] [(.int (1 : Int32))])) _
    refine XS.ifNo X75.here hx rfl (hb hby at_139) rfl ((if0 _ _).trans (feq (by decide)).1) ?_
    refine XS.aload X75.here hx rfl (hb hby at_142) rfl rfl ?_
    refine XS.aload X75.here hx rfl (hb hby at_144) rfl rfl ?_
    refine XS.iconst X75.here hx rfl (hb hby at_146) ?_
    show Steps p.tables e below (T75.setTop (mkF m 147 #[.val (.int p1), .val (.int p2), .val (.int p3), .val (.int p4), .val (.int p5), .val (.int p6), .val (.int qv0), .val (.int qv1), .val (.int qv2), .val (.int qv3), .val (.int qv4), .val (.ref b27), .val (.int ((p6 &&& (2147483647 : Int32)) % (5 : Int32))), .val (.ref b62), .val (.int z62'), .unset, .unset] [(.int (1 : Int32)), (.ref b27), (.ref b62)])) _
    exact k
  obtain ⟨_, _, ⟨T79, L79, kk79, nn79⟩, -, X79, ⟨Lc79, hQ79, lq79, yq79, zq79⟩, st79⟩ := Jvm.LawKit.callS X75 hx (y := (⟨"com/example/holdover/holdover/analysis/BreadthFirstPathPinLaw", "link", "([I[II)Z"⟩ : MethodName)) hown (mvT hZ (hw _ (List.mem_of_getElem? (i := 14) rfl))) (mvT hZ (hw _ (List.mem_of_getElem? (i := 15) rfl))) (mvT hZ (hw _ (List.mem_of_getElem? (i := 3) rfl))) (mvT hZ (hw _ (List.mem_of_getElem? (i := 16) rfl))) (by decide) (backOf (W := 0) (rm4 l Z a0 hw [] b62 b27 (1 : Int32) k62' kn27 z62' vs62 [(.int qv0), (.int qv1), (.int qv2), (.int qv3), (.int qv4)] T62.heap n0 Z65 VP62 f64 hl1) hZ (hw _ (List.mem_of_getElem? (i := 16) rfl)) (hw _ (List.mem_of_getElem? (i := 3) rfl)) (by decide) (by decide)) (g := (mkF m 147 #[.val (.int p1), .val (.int p2), .val (.int p3), .val (.int p4), .val (.int p5), .val (.int p6), .val (.int qv0), .val (.int qv1), .val (.int qv2), .val (.int qv3), .val (.int qv4), .val (.ref b27), .val (.int ((p6 &&& (2147483647 : Int32)) % (5 : Int32))), .val (.ref b62), .val (.int z62'), .unset, .unset] [(.int (1 : Int32)), (.ref b27), (.ref b62)])) rfl (by rw [hml]; rfl) (argsL := [(.ref b62), (.ref b27), (.int (1 : Int32))]) (rest := []) (lenOf pd_3 rfl) rfl (by show 2 * 0 + _ ≤ _; exact Nat.le_of_eq rfl) (hb hby at_147) (fun _ _ => ⟨rfl, e75, (by decide : 2 + 0 ≤ _), (by decide : 10 + 0 ≤ _)⟩)
  dsimp only [Pt.U, Pt.locs, Pt.cells, Pt.slots] at X79 lq79 yq79 zq79 st79 hQ79
  subst lq79 yq79 zq79
  obtain ⟨rfl, Nq79, e79⟩ := hQ79
  have N80 := Fr.app N76 Nq79
  have K81 : ∀ t, Steps p.tables e below (T79.setTop (mkF m 150 #[.val (.int p1), .val (.int p2), .val (.int p3), .val (.int p4), .val (.int p5), .val (.int p6), .val (.int qv0), .val (.int qv1), .val (.int qv2), .val (.int qv3), .val (.int qv4), .val (.ref b27), .val (.int ((p6 &&& (2147483647 : Int32)) % (5 : Int32))), .val (.ref b62), .val (.int z62'), .unset, .unset] [(.int (1 : Int32))])) t → Steps p.tables e below G t := fun t k => K78 t (st79 _ k)
  have K82 : ∀ t, Steps p.tables e below (T79.setTop (mkF m 158 #[.val (.int p1), .val (.int p2), .val (.int p3), .val (.int p4), .val (.int p5), .val (.int p6), .val (.int qv0), .val (.int qv1), .val (.int qv2), .val (.int qv3), .val (.int qv4), .val (.ref b27), .val (.int ((p6 &&& (2147483647 : Int32)) % (5 : Int32))), .val (.ref b62), .val (.int z62'), .unset, .unset] [(.int (2 : Int32)), (.ref b27), (.ref b62)])) t → Steps p.tables e below G t := by
    intro t k
    refine K81 t ?_
    show Steps p.tables e below (T79.setTop (mkF m 150 #[.val (.int p1), .val (.int p2), .val (.int p3), .val (.int p4), .val (.int p5), .val (.int p6), .val (.int qv0), .val (.int qv1), .val (.int qv2), .val (.int qv3), .val (.int qv4), .val (.ref b27), .val (.int ((p6 &&& (2147483647 : Int32)) % (5 : Int32))), .val (.ref b62), .val (.int z62'), .unset, .unset] [(.int (1 : Int32))])) _
    refine XS.ifNo X79.here hx rfl (hb hby at_150) rfl ((if0 _ _).trans (feq (by decide)).1) ?_
    refine XS.aload X79.here hx rfl (hb hby at_153) rfl rfl ?_
    refine XS.aload X79.here hx rfl (hb hby at_155) rfl rfl ?_
    refine XS.iconst X79.here hx rfl (hb hby at_157) ?_
    show Steps p.tables e below (T79.setTop (mkF m 158 #[.val (.int p1), .val (.int p2), .val (.int p3), .val (.int p4), .val (.int p5), .val (.int p6), .val (.int qv0), .val (.int qv1), .val (.int qv2), .val (.int qv3), .val (.int qv4), .val (.ref b27), .val (.int ((p6 &&& (2147483647 : Int32)) % (5 : Int32))), .val (.ref b62), .val (.int z62'), .unset, .unset] [(.int (2 : Int32)), (.ref b27), (.ref b62)])) _
    exact k
  obtain ⟨_, _, ⟨T83, L83, kk83, nn83⟩, -, X83, ⟨Lc83, hQ83, lq83, yq83, zq83⟩, st83⟩ := Jvm.LawKit.callS X79 hx (y := (⟨"com/example/holdover/holdover/analysis/BreadthFirstPathPinLaw", "link", "([I[II)Z"⟩ : MethodName)) hown (mvT hZ (hw _ (List.mem_of_getElem? (i := 14) rfl))) (mvT hZ (hw _ (List.mem_of_getElem? (i := 15) rfl))) (mvT hZ (hw _ (List.mem_of_getElem? (i := 3) rfl))) (mvT hZ (hw _ (List.mem_of_getElem? (i := 16) rfl))) (by decide) (backOf (W := 0) (rm4 l Z a0 hw [] b62 b27 (2 : Int32) k62' kn27 z62' vs62 [(.int qv0), (.int qv1), (.int qv2), (.int qv3), (.int qv4)] T62.heap n0 Z65 VP62 f64 hl2) hZ (hw _ (List.mem_of_getElem? (i := 16) rfl)) (hw _ (List.mem_of_getElem? (i := 3) rfl)) (by decide) (by decide)) (g := (mkF m 158 #[.val (.int p1), .val (.int p2), .val (.int p3), .val (.int p4), .val (.int p5), .val (.int p6), .val (.int qv0), .val (.int qv1), .val (.int qv2), .val (.int qv3), .val (.int qv4), .val (.ref b27), .val (.int ((p6 &&& (2147483647 : Int32)) % (5 : Int32))), .val (.ref b62), .val (.int z62'), .unset, .unset] [(.int (2 : Int32)), (.ref b27), (.ref b62)])) rfl (by rw [hml]; rfl) (argsL := [(.ref b62), (.ref b27), (.int (2 : Int32))]) (rest := []) (lenOf pd_3 rfl) rfl (by show 2 * 0 + _ ≤ _; exact Nat.le_of_eq rfl) (hb hby at_158) (fun _ _ => ⟨rfl, e79, (by decide : 2 + 0 ≤ _), (by decide : 10 + 0 ≤ _)⟩)
  dsimp only [Pt.U, Pt.locs, Pt.cells, Pt.slots] at X83 lq83 yq83 zq83 st83 hQ83
  subst lq83 yq83 zq83
  obtain ⟨rfl, Nq83, e83⟩ := hQ83
  have N84 := Fr.app N80 Nq83
  have K85 : ∀ t, Steps p.tables e below (T83.setTop (mkF m 161 #[.val (.int p1), .val (.int p2), .val (.int p3), .val (.int p4), .val (.int p5), .val (.int p6), .val (.int qv0), .val (.int qv1), .val (.int qv2), .val (.int qv3), .val (.int qv4), .val (.ref b27), .val (.int ((p6 &&& (2147483647 : Int32)) % (5 : Int32))), .val (.ref b62), .val (.int z62'), .unset, .unset] [(.int (1 : Int32))])) t → Steps p.tables e below G t := fun t k => K82 t (st83 _ k)
  have K86 : ∀ t, Steps p.tables e below (T83.setTop (mkF m 169 #[.val (.int p1), .val (.int p2), .val (.int p3), .val (.int p4), .val (.int p5), .val (.int p6), .val (.int qv0), .val (.int qv1), .val (.int qv2), .val (.int qv3), .val (.int qv4), .val (.ref b27), .val (.int ((p6 &&& (2147483647 : Int32)) % (5 : Int32))), .val (.ref b62), .val (.int z62'), .unset, .unset] [(.int (3 : Int32)), (.ref b27), (.ref b62)])) t → Steps p.tables e below G t := by
    intro t k
    refine K85 t ?_
    show Steps p.tables e below (T83.setTop (mkF m 161 #[.val (.int p1), .val (.int p2), .val (.int p3), .val (.int p4), .val (.int p5), .val (.int p6), .val (.int qv0), .val (.int qv1), .val (.int qv2), .val (.int qv3), .val (.int qv4), .val (.ref b27), .val (.int ((p6 &&& (2147483647 : Int32)) % (5 : Int32))), .val (.ref b62), .val (.int z62'), .unset, .unset] [(.int (1 : Int32))])) _
    refine XS.ifNo X83.here hx rfl (hb hby at_161) rfl ((if0 _ _).trans (feq (by decide)).1) ?_
    refine XS.aload X83.here hx rfl (hb hby at_164) rfl rfl ?_
    refine XS.aload X83.here hx rfl (hb hby at_166) rfl rfl ?_
    refine XS.iconst X83.here hx rfl (hb hby at_168) ?_
    show Steps p.tables e below (T83.setTop (mkF m 169 #[.val (.int p1), .val (.int p2), .val (.int p3), .val (.int p4), .val (.int p5), .val (.int p6), .val (.int qv0), .val (.int qv1), .val (.int qv2), .val (.int qv3), .val (.int qv4), .val (.ref b27), .val (.int ((p6 &&& (2147483647 : Int32)) % (5 : Int32))), .val (.ref b62), .val (.int z62'), .unset, .unset] [(.int (3 : Int32)), (.ref b27), (.ref b62)])) _
    exact k
  obtain ⟨_, _, ⟨T87, L87, kk87, nn87⟩, -, X87, ⟨Lc87, hQ87, lq87, yq87, zq87⟩, st87⟩ := Jvm.LawKit.callS X83 hx (y := (⟨"com/example/holdover/holdover/analysis/BreadthFirstPathPinLaw", "link", "([I[II)Z"⟩ : MethodName)) hown (mvT hZ (hw _ (List.mem_of_getElem? (i := 14) rfl))) (mvT hZ (hw _ (List.mem_of_getElem? (i := 15) rfl))) (mvT hZ (hw _ (List.mem_of_getElem? (i := 3) rfl))) (mvT hZ (hw _ (List.mem_of_getElem? (i := 16) rfl))) (by decide) (backOf (W := 0) (rm4 l Z a0 hw [] b62 b27 (3 : Int32) k62' kn27 z62' vs62 [(.int qv0), (.int qv1), (.int qv2), (.int qv3), (.int qv4)] T62.heap n0 Z65 VP62 f64 hl3) hZ (hw _ (List.mem_of_getElem? (i := 16) rfl)) (hw _ (List.mem_of_getElem? (i := 3) rfl)) (by decide) (by decide)) (g := (mkF m 169 #[.val (.int p1), .val (.int p2), .val (.int p3), .val (.int p4), .val (.int p5), .val (.int p6), .val (.int qv0), .val (.int qv1), .val (.int qv2), .val (.int qv3), .val (.int qv4), .val (.ref b27), .val (.int ((p6 &&& (2147483647 : Int32)) % (5 : Int32))), .val (.ref b62), .val (.int z62'), .unset, .unset] [(.int (3 : Int32)), (.ref b27), (.ref b62)])) rfl (by rw [hml]; rfl) (argsL := [(.ref b62), (.ref b27), (.int (3 : Int32))]) (rest := []) (lenOf pd_3 rfl) rfl (by show 2 * 0 + _ ≤ _; exact Nat.le_of_eq rfl) (hb hby at_169) (fun _ _ => ⟨rfl, e83, (by decide : 2 + 0 ≤ _), (by decide : 10 + 0 ≤ _)⟩)
  dsimp only [Pt.U, Pt.locs, Pt.cells, Pt.slots] at X87 lq87 yq87 zq87 st87 hQ87
  subst lq87 yq87 zq87
  obtain ⟨rfl, Nq87, e87⟩ := hQ87
  have N88 := Fr.app N84 Nq87
  have K89 : ∀ t, Steps p.tables e below (T87.setTop (mkF m 172 #[.val (.int p1), .val (.int p2), .val (.int p3), .val (.int p4), .val (.int p5), .val (.int p6), .val (.int qv0), .val (.int qv1), .val (.int qv2), .val (.int qv3), .val (.int qv4), .val (.ref b27), .val (.int ((p6 &&& (2147483647 : Int32)) % (5 : Int32))), .val (.ref b62), .val (.int z62'), .unset, .unset] [(.int (1 : Int32))])) t → Steps p.tables e below G t := fun t k => K86 t (st87 _ k)
  have K90 : ∀ t, Steps p.tables e below (T87.setTop (mkF m 180 #[.val (.int p1), .val (.int p2), .val (.int p3), .val (.int p4), .val (.int p5), .val (.int p6), .val (.int qv0), .val (.int qv1), .val (.int qv2), .val (.int qv3), .val (.int qv4), .val (.ref b27), .val (.int ((p6 &&& (2147483647 : Int32)) % (5 : Int32))), .val (.ref b62), .val (.int z62'), .unset, .unset] [(.int (4 : Int32)), (.ref b27), (.ref b62)])) t → Steps p.tables e below G t := by
    intro t k
    refine K89 t ?_
    show Steps p.tables e below (T87.setTop (mkF m 172 #[.val (.int p1), .val (.int p2), .val (.int p3), .val (.int p4), .val (.int p5), .val (.int p6), .val (.int qv0), .val (.int qv1), .val (.int qv2), .val (.int qv3), .val (.int qv4), .val (.ref b27), .val (.int ((p6 &&& (2147483647 : Int32)) % (5 : Int32))), .val (.ref b62), .val (.int z62'), .unset, .unset] [(.int (1 : Int32))])) _
    refine XS.ifNo X87.here hx rfl (hb hby at_172) rfl ((if0 _ _).trans (feq (by decide)).1) ?_
    refine XS.aload X87.here hx rfl (hb hby at_175) rfl rfl ?_
    refine XS.aload X87.here hx rfl (hb hby at_177) rfl rfl ?_
    refine XS.iconst X87.here hx rfl (hb hby at_179) ?_
    show Steps p.tables e below (T87.setTop (mkF m 180 #[.val (.int p1), .val (.int p2), .val (.int p3), .val (.int p4), .val (.int p5), .val (.int p6), .val (.int qv0), .val (.int qv1), .val (.int qv2), .val (.int qv3), .val (.int qv4), .val (.ref b27), .val (.int ((p6 &&& (2147483647 : Int32)) % (5 : Int32))), .val (.ref b62), .val (.int z62'), .unset, .unset] [(.int (4 : Int32)), (.ref b27), (.ref b62)])) _
    exact k
  obtain ⟨_, _, ⟨T91, L91, kk91, nn91⟩, -, X91, ⟨Lc91, hQ91, lq91, yq91, zq91⟩, st91⟩ := Jvm.LawKit.callS X87 hx (y := (⟨"com/example/holdover/holdover/analysis/BreadthFirstPathPinLaw", "link", "([I[II)Z"⟩ : MethodName)) hown (mvT hZ (hw _ (List.mem_of_getElem? (i := 14) rfl))) (mvT hZ (hw _ (List.mem_of_getElem? (i := 15) rfl))) (mvT hZ (hw _ (List.mem_of_getElem? (i := 3) rfl))) (mvT hZ (hw _ (List.mem_of_getElem? (i := 16) rfl))) (by decide) (backOf (W := 0) (rm4 l Z a0 hw [] b62 b27 (4 : Int32) k62' kn27 z62' vs62 [(.int qv0), (.int qv1), (.int qv2), (.int qv3), (.int qv4)] T62.heap n0 Z65 VP62 f64 hl4) hZ (hw _ (List.mem_of_getElem? (i := 16) rfl)) (hw _ (List.mem_of_getElem? (i := 3) rfl)) (by decide) (by decide)) (g := (mkF m 180 #[.val (.int p1), .val (.int p2), .val (.int p3), .val (.int p4), .val (.int p5), .val (.int p6), .val (.int qv0), .val (.int qv1), .val (.int qv2), .val (.int qv3), .val (.int qv4), .val (.ref b27), .val (.int ((p6 &&& (2147483647 : Int32)) % (5 : Int32))), .val (.ref b62), .val (.int z62'), .unset, .unset] [(.int (4 : Int32)), (.ref b27), (.ref b62)])) rfl (by rw [hml]; rfl) (argsL := [(.ref b62), (.ref b27), (.int (4 : Int32))]) (rest := []) (lenOf pd_3 rfl) rfl (by show 2 * 0 + _ ≤ _; exact Nat.le_of_eq rfl) (hb hby at_180) (fun _ _ => ⟨rfl, e87, (by decide : 2 + 0 ≤ _), (by decide : 10 + 0 ≤ _)⟩)
  dsimp only [Pt.U, Pt.locs, Pt.cells, Pt.slots] at X91 lq91 yq91 zq91 st91 hQ91
  subst lq91 yq91 zq91
  obtain ⟨rfl, Nq91, e91⟩ := hQ91
  have N92 := Fr.app N88 Nq91
  have K93 : ∀ t, Steps p.tables e below (T91.setTop (mkF m 183 #[.val (.int p1), .val (.int p2), .val (.int p3), .val (.int p4), .val (.int p5), .val (.int p6), .val (.int qv0), .val (.int qv1), .val (.int qv2), .val (.int qv3), .val (.int qv4), .val (.ref b27), .val (.int ((p6 &&& (2147483647 : Int32)) % (5 : Int32))), .val (.ref b62), .val (.int z62'), .unset, .unset] [(.int (1 : Int32))])) t → Steps p.tables e below G t := fun t k => K90 t (st91 _ k)
  have K94 : ∀ t, Steps p.tables e below (T91.setTop (mkF m 196 #[.val (.int p1), .val (.int p2), .val (.int p3), .val (.int p4), .val (.int p5), .val (.int p6), .val (.int qv0), .val (.int qv1), .val (.int qv2), .val (.int qv3), .val (.int qv4), .val (.ref b27), .val (.int ((p6 &&& (2147483647 : Int32)) % (5 : Int32))), .val (.ref b62), .val (.int z62'), .val (.int (1 : Int32)), .unset] [(.int (0 : Int32)), (.ref b27)])) t → Steps p.tables e below G t := by
    intro t k
    refine K93 t ?_
    show Steps p.tables e below (T91.setTop (mkF m 183 #[.val (.int p1), .val (.int p2), .val (.int p3), .val (.int p4), .val (.int p5), .val (.int p6), .val (.int qv0), .val (.int qv1), .val (.int qv2), .val (.int qv3), .val (.int qv4), .val (.ref b27), .val (.int ((p6 &&& (2147483647 : Int32)) % (5 : Int32))), .val (.ref b62), .val (.int z62'), .unset, .unset] [(.int (1 : Int32))])) _
    refine XS.ifNo X91.here hx rfl (hb hby at_183) rfl ((if0 _ _).trans (feq (by decide)).1) ?_
    refine XS.iconst X91.here hx rfl (hb hby at_186) ?_
    refine XS.goto X91.here hx rfl (pc0 := 187) (pc' := 191) rfl (hb hby at_187) (by decide) (by decide) ?_
    refine XS.istore X91.here hx rfl (hb hby at_191) rfl (l' := #[.val (.int p1), .val (.int p2), .val (.int p3), .val (.int p4), .val (.int p5), .val (.int p6), .val (.int qv0), .val (.int qv1), .val (.int qv2), .val (.int qv3), .val (.int qv4), .val (.ref b27), .val (.int ((p6 &&& (2147483647 : Int32)) % (5 : Int32))), .val (.ref b62), .val (.int z62'), .val (.int (1 : Int32)), .unset]) rfl ?_
    show Steps p.tables e below (T91.setTop (mkF m 193 #[.val (.int p1), .val (.int p2), .val (.int p3), .val (.int p4), .val (.int p5), .val (.int p6), .val (.int qv0), .val (.int qv1), .val (.int qv2), .val (.int qv3), .val (.int qv4), .val (.ref b27), .val (.int ((p6 &&& (2147483647 : Int32)) % (5 : Int32))), .val (.ref b62), .val (.int z62'), .val (.int (1 : Int32)), .unset] [])) _
    refine XS.aload X91.here hx rfl (hb hby at_193) rfl rfl ?_
    refine XS.iconst X91.here hx rfl (hb hby at_195) ?_
    show Steps p.tables e below (T91.setTop (mkF m 196 #[.val (.int p1), .val (.int p2), .val (.int p3), .val (.int p4), .val (.int p5), .val (.int p6), .val (.int qv0), .val (.int qv1), .val (.int qv2), .val (.int qv3), .val (.int qv4), .val (.ref b27), .val (.int ((p6 &&& (2147483647 : Int32)) % (5 : Int32))), .val (.ref b62), .val (.int z62'), .val (.int (1 : Int32)), .unset] [(.int (0 : Int32)), (.ref b27)])) _
    exact k
  obtain ⟨cl95, Ar95, qc95, S95, M95, Ha95, Ga95⟩ := id f64
  have hin95 : ¬ ((0 : Int32) < 0 ∨ cl95.slots.size ≤ ((0 : Int32)).toNatClampNeg) := inb_of S95 ⟨by decide, by decide⟩
  have hat95 : cl95.slots[((0 : Int32)).toNatClampNeg]? = some (.int qv0) := Ha95.at hin95 rfl
  have K96 : ∀ t, Steps p.tables e below (T91.setTop (mkF m 197 #[.val (.int p1), .val (.int p2), .val (.int p3), .val (.int p4), .val (.int p5), .val (.int p6), .val (.int qv0), .val (.int qv1), .val (.int qv2), .val (.int qv3), .val (.int qv4), .val (.ref b27), .val (.int ((p6 &&& (2147483647 : Int32)) % (5 : Int32))), .val (.ref b62), .val (.int z62'), .val (.int (1 : Int32)), .unset] [(.int qv0)])) t → Steps p.tables e below G t := fun t k => K94 t (X91.iaload hx (j := (0 : Int32)) (v := (.int qv0)) (by rw [e91]; exact Ar95.1) (State.isArrayOf_alike hZ.alike Ar95.2.1) Ar95.2.2 hin95 hat95 (g := (mkF m 196 #[.val (.int p1), .val (.int p2), .val (.int p3), .val (.int p4), .val (.int p5), .val (.int p6), .val (.int qv0), .val (.int qv1), .val (.int qv2), .val (.int qv3), .val (.int qv4), .val (.ref b27), .val (.int ((p6 &&& (2147483647 : Int32)) % (5 : Int32))), .val (.ref b62), .val (.int z62'), .val (.int (1 : Int32)), .unset] [(.int (0 : Int32)), (.ref b27)])) rfl rfl (hb hby at_196) _ k)
  have K97 : ∀ t, Steps p.tables e below (T91.setTop (mkF m 205 #[.val (.int p1), .val (.int p2), .val (.int p3), .val (.int p4), .val (.int p5), .val (.int p6), .val (.int qv0), .val (.int qv1), .val (.int qv2), .val (.int qv3), .val (.int qv4), .val (.ref b27), .val (.int ((p6 &&& (2147483647 : Int32)) % (5 : Int32))), .val (.ref b62), .val (.int z62'), .val (.int (1 : Int32)), .unset] [(.int (1 : Int32)), (.ref b27)])) t → Steps p.tables e below G t := by
    intro t k
    refine K96 t ?_
    show Steps p.tables e below (T91.setTop (mkF m 197 #[.val (.int p1), .val (.int p2), .val (.int p3), .val (.int p4), .val (.int p5), .val (.int p6), .val (.int qv0), .val (.int qv1), .val (.int qv2), .val (.int qv3), .val (.int qv4), .val (.ref b27), .val (.int ((p6 &&& (2147483647 : Int32)) % (5 : Int32))), .val (.ref b62), .val (.int z62'), .val (.int (1 : Int32)), .unset] [(.int qv0)])) _
    refine XS.iload X91.here hx rfl (hb hby at_197) rfl ?_
    refine XS.icmpNo X91.here hx rfl (hb hby at_199) rfl (teq (rfl : qv0 = qv0)).2 ?_
    refine XS.aload X91.here hx rfl (hb hby at_202) rfl rfl ?_
    refine XS.iconst X91.here hx rfl (hb hby at_204) ?_
    show Steps p.tables e below (T91.setTop (mkF m 205 #[.val (.int p1), .val (.int p2), .val (.int p3), .val (.int p4), .val (.int p5), .val (.int p6), .val (.int qv0), .val (.int qv1), .val (.int qv2), .val (.int qv3), .val (.int qv4), .val (.ref b27), .val (.int ((p6 &&& (2147483647 : Int32)) % (5 : Int32))), .val (.ref b62), .val (.int z62'), .val (.int (1 : Int32)), .unset] [(.int (1 : Int32)), (.ref b27)])) _
    exact k
  obtain ⟨cl98, Ar98, qc98, S98, M98, Ha98, Ga98⟩ := id f64
  have hin98 : ¬ ((1 : Int32) < 0 ∨ cl98.slots.size ≤ ((1 : Int32)).toNatClampNeg) := inb_of S98 ⟨by decide, by decide⟩
  have hat98 : cl98.slots[((1 : Int32)).toNatClampNeg]? = some (.int qv1) := Ha98.at hin98 rfl
  have K99 : ∀ t, Steps p.tables e below (T91.setTop (mkF m 206 #[.val (.int p1), .val (.int p2), .val (.int p3), .val (.int p4), .val (.int p5), .val (.int p6), .val (.int qv0), .val (.int qv1), .val (.int qv2), .val (.int qv3), .val (.int qv4), .val (.ref b27), .val (.int ((p6 &&& (2147483647 : Int32)) % (5 : Int32))), .val (.ref b62), .val (.int z62'), .val (.int (1 : Int32)), .unset] [(.int qv1)])) t → Steps p.tables e below G t := fun t k => K97 t (X91.iaload hx (j := (1 : Int32)) (v := (.int qv1)) (by rw [e91]; exact Ar98.1) (State.isArrayOf_alike hZ.alike Ar98.2.1) Ar98.2.2 hin98 hat98 (g := (mkF m 205 #[.val (.int p1), .val (.int p2), .val (.int p3), .val (.int p4), .val (.int p5), .val (.int p6), .val (.int qv0), .val (.int qv1), .val (.int qv2), .val (.int qv3), .val (.int qv4), .val (.ref b27), .val (.int ((p6 &&& (2147483647 : Int32)) % (5 : Int32))), .val (.ref b62), .val (.int z62'), .val (.int (1 : Int32)), .unset] [(.int (1 : Int32)), (.ref b27)])) rfl rfl (hb hby at_205) _ k)
  have K100 : ∀ t, Steps p.tables e below (T91.setTop (mkF m 214 #[.val (.int p1), .val (.int p2), .val (.int p3), .val (.int p4), .val (.int p5), .val (.int p6), .val (.int qv0), .val (.int qv1), .val (.int qv2), .val (.int qv3), .val (.int qv4), .val (.ref b27), .val (.int ((p6 &&& (2147483647 : Int32)) % (5 : Int32))), .val (.ref b62), .val (.int z62'), .val (.int (1 : Int32)), .unset] [(.int (2 : Int32)), (.ref b27)])) t → Steps p.tables e below G t := by
    intro t k
    refine K99 t ?_
    show Steps p.tables e below (T91.setTop (mkF m 206 #[.val (.int p1), .val (.int p2), .val (.int p3), .val (.int p4), .val (.int p5), .val (.int p6), .val (.int qv0), .val (.int qv1), .val (.int qv2), .val (.int qv3), .val (.int qv4), .val (.ref b27), .val (.int ((p6 &&& (2147483647 : Int32)) % (5 : Int32))), .val (.ref b62), .val (.int z62'), .val (.int (1 : Int32)), .unset] [(.int qv1)])) _
    refine XS.iload X91.here hx rfl (hb hby at_206) rfl ?_
    refine XS.icmpNo X91.here hx rfl (hb hby at_208) rfl (teq (rfl : qv1 = qv1)).2 ?_
    refine XS.aload X91.here hx rfl (hb hby at_211) rfl rfl ?_
    refine XS.iconst X91.here hx rfl (hb hby at_213) ?_
    show Steps p.tables e below (T91.setTop (mkF m 214 #[.val (.int p1), .val (.int p2), .val (.int p3), .val (.int p4), .val (.int p5), .val (.int p6), .val (.int qv0), .val (.int qv1), .val (.int qv2), .val (.int qv3), .val (.int qv4), .val (.ref b27), .val (.int ((p6 &&& (2147483647 : Int32)) % (5 : Int32))), .val (.ref b62), .val (.int z62'), .val (.int (1 : Int32)), .unset] [(.int (2 : Int32)), (.ref b27)])) _
    exact k
  obtain ⟨cl101, Ar101, qc101, S101, M101, Ha101, Ga101⟩ := id f64
  have hin101 : ¬ ((2 : Int32) < 0 ∨ cl101.slots.size ≤ ((2 : Int32)).toNatClampNeg) := inb_of S101 ⟨by decide, by decide⟩
  have hat101 : cl101.slots[((2 : Int32)).toNatClampNeg]? = some (.int qv2) := Ha101.at hin101 rfl
  have K102 : ∀ t, Steps p.tables e below (T91.setTop (mkF m 215 #[.val (.int p1), .val (.int p2), .val (.int p3), .val (.int p4), .val (.int p5), .val (.int p6), .val (.int qv0), .val (.int qv1), .val (.int qv2), .val (.int qv3), .val (.int qv4), .val (.ref b27), .val (.int ((p6 &&& (2147483647 : Int32)) % (5 : Int32))), .val (.ref b62), .val (.int z62'), .val (.int (1 : Int32)), .unset] [(.int qv2)])) t → Steps p.tables e below G t := fun t k => K100 t (X91.iaload hx (j := (2 : Int32)) (v := (.int qv2)) (by rw [e91]; exact Ar101.1) (State.isArrayOf_alike hZ.alike Ar101.2.1) Ar101.2.2 hin101 hat101 (g := (mkF m 214 #[.val (.int p1), .val (.int p2), .val (.int p3), .val (.int p4), .val (.int p5), .val (.int p6), .val (.int qv0), .val (.int qv1), .val (.int qv2), .val (.int qv3), .val (.int qv4), .val (.ref b27), .val (.int ((p6 &&& (2147483647 : Int32)) % (5 : Int32))), .val (.ref b62), .val (.int z62'), .val (.int (1 : Int32)), .unset] [(.int (2 : Int32)), (.ref b27)])) rfl rfl (hb hby at_214) _ k)
  have K103 : ∀ t, Steps p.tables e below (T91.setTop (mkF m 223 #[.val (.int p1), .val (.int p2), .val (.int p3), .val (.int p4), .val (.int p5), .val (.int p6), .val (.int qv0), .val (.int qv1), .val (.int qv2), .val (.int qv3), .val (.int qv4), .val (.ref b27), .val (.int ((p6 &&& (2147483647 : Int32)) % (5 : Int32))), .val (.ref b62), .val (.int z62'), .val (.int (1 : Int32)), .unset] [(.int (3 : Int32)), (.ref b27)])) t → Steps p.tables e below G t := by
    intro t k
    refine K102 t ?_
    show Steps p.tables e below (T91.setTop (mkF m 215 #[.val (.int p1), .val (.int p2), .val (.int p3), .val (.int p4), .val (.int p5), .val (.int p6), .val (.int qv0), .val (.int qv1), .val (.int qv2), .val (.int qv3), .val (.int qv4), .val (.ref b27), .val (.int ((p6 &&& (2147483647 : Int32)) % (5 : Int32))), .val (.ref b62), .val (.int z62'), .val (.int (1 : Int32)), .unset] [(.int qv2)])) _
    refine XS.iload X91.here hx rfl (hb hby at_215) rfl ?_
    refine XS.icmpNo X91.here hx rfl (hb hby at_217) rfl (teq (rfl : qv2 = qv2)).2 ?_
    refine XS.aload X91.here hx rfl (hb hby at_220) rfl rfl ?_
    refine XS.iconst X91.here hx rfl (hb hby at_222) ?_
    show Steps p.tables e below (T91.setTop (mkF m 223 #[.val (.int p1), .val (.int p2), .val (.int p3), .val (.int p4), .val (.int p5), .val (.int p6), .val (.int qv0), .val (.int qv1), .val (.int qv2), .val (.int qv3), .val (.int qv4), .val (.ref b27), .val (.int ((p6 &&& (2147483647 : Int32)) % (5 : Int32))), .val (.ref b62), .val (.int z62'), .val (.int (1 : Int32)), .unset] [(.int (3 : Int32)), (.ref b27)])) _
    exact k
  obtain ⟨cl104, Ar104, qc104, S104, M104, Ha104, Ga104⟩ := id f64
  have hin104 : ¬ ((3 : Int32) < 0 ∨ cl104.slots.size ≤ ((3 : Int32)).toNatClampNeg) := inb_of S104 ⟨by decide, by decide⟩
  have hat104 : cl104.slots[((3 : Int32)).toNatClampNeg]? = some (.int qv3) := Ha104.at hin104 rfl
  have K105 : ∀ t, Steps p.tables e below (T91.setTop (mkF m 224 #[.val (.int p1), .val (.int p2), .val (.int p3), .val (.int p4), .val (.int p5), .val (.int p6), .val (.int qv0), .val (.int qv1), .val (.int qv2), .val (.int qv3), .val (.int qv4), .val (.ref b27), .val (.int ((p6 &&& (2147483647 : Int32)) % (5 : Int32))), .val (.ref b62), .val (.int z62'), .val (.int (1 : Int32)), .unset] [(.int qv3)])) t → Steps p.tables e below G t := fun t k => K103 t (X91.iaload hx (j := (3 : Int32)) (v := (.int qv3)) (by rw [e91]; exact Ar104.1) (State.isArrayOf_alike hZ.alike Ar104.2.1) Ar104.2.2 hin104 hat104 (g := (mkF m 223 #[.val (.int p1), .val (.int p2), .val (.int p3), .val (.int p4), .val (.int p5), .val (.int p6), .val (.int qv0), .val (.int qv1), .val (.int qv2), .val (.int qv3), .val (.int qv4), .val (.ref b27), .val (.int ((p6 &&& (2147483647 : Int32)) % (5 : Int32))), .val (.ref b62), .val (.int z62'), .val (.int (1 : Int32)), .unset] [(.int (3 : Int32)), (.ref b27)])) rfl rfl (hb hby at_223) _ k)
  have K106 : ∀ t, Steps p.tables e below (T91.setTop (mkF m 232 #[.val (.int p1), .val (.int p2), .val (.int p3), .val (.int p4), .val (.int p5), .val (.int p6), .val (.int qv0), .val (.int qv1), .val (.int qv2), .val (.int qv3), .val (.int qv4), .val (.ref b27), .val (.int ((p6 &&& (2147483647 : Int32)) % (5 : Int32))), .val (.ref b62), .val (.int z62'), .val (.int (1 : Int32)), .unset] [(.int (4 : Int32)), (.ref b27)])) t → Steps p.tables e below G t := by
    intro t k
    refine K105 t ?_
    show Steps p.tables e below (T91.setTop (mkF m 224 #[.val (.int p1), .val (.int p2), .val (.int p3), .val (.int p4), .val (.int p5), .val (.int p6), .val (.int qv0), .val (.int qv1), .val (.int qv2), .val (.int qv3), .val (.int qv4), .val (.ref b27), .val (.int ((p6 &&& (2147483647 : Int32)) % (5 : Int32))), .val (.ref b62), .val (.int z62'), .val (.int (1 : Int32)), .unset] [(.int qv3)])) _
    refine XS.iload X91.here hx rfl (hb hby at_224) rfl ?_
    refine XS.icmpNo X91.here hx rfl (hb hby at_226) rfl (teq (rfl : qv3 = qv3)).2 ?_
    refine XS.aload X91.here hx rfl (hb hby at_229) rfl rfl ?_
    refine XS.iconst X91.here hx rfl (hb hby at_231) ?_
    show Steps p.tables e below (T91.setTop (mkF m 232 #[.val (.int p1), .val (.int p2), .val (.int p3), .val (.int p4), .val (.int p5), .val (.int p6), .val (.int qv0), .val (.int qv1), .val (.int qv2), .val (.int qv3), .val (.int qv4), .val (.ref b27), .val (.int ((p6 &&& (2147483647 : Int32)) % (5 : Int32))), .val (.ref b62), .val (.int z62'), .val (.int (1 : Int32)), .unset] [(.int (4 : Int32)), (.ref b27)])) _
    exact k
  obtain ⟨cl107, Ar107, qc107, S107, M107, Ha107, Ga107⟩ := id f64
  have hin107 : ¬ ((4 : Int32) < 0 ∨ cl107.slots.size ≤ ((4 : Int32)).toNatClampNeg) := inb_of S107 ⟨by decide, by decide⟩
  have hat107 : cl107.slots[((4 : Int32)).toNatClampNeg]? = some (.int qv4) := Ha107.at hin107 rfl
  have K108 : ∀ t, Steps p.tables e below (T91.setTop (mkF m 233 #[.val (.int p1), .val (.int p2), .val (.int p3), .val (.int p4), .val (.int p5), .val (.int p6), .val (.int qv0), .val (.int qv1), .val (.int qv2), .val (.int qv3), .val (.int qv4), .val (.ref b27), .val (.int ((p6 &&& (2147483647 : Int32)) % (5 : Int32))), .val (.ref b62), .val (.int z62'), .val (.int (1 : Int32)), .unset] [(.int qv4)])) t → Steps p.tables e below G t := fun t k => K106 t (X91.iaload hx (j := (4 : Int32)) (v := (.int qv4)) (by rw [e91]; exact Ar107.1) (State.isArrayOf_alike hZ.alike Ar107.2.1) Ar107.2.2 hin107 hat107 (g := (mkF m 232 #[.val (.int p1), .val (.int p2), .val (.int p3), .val (.int p4), .val (.int p5), .val (.int p6), .val (.int qv0), .val (.int qv1), .val (.int qv2), .val (.int qv3), .val (.int qv4), .val (.ref b27), .val (.int ((p6 &&& (2147483647 : Int32)) % (5 : Int32))), .val (.ref b62), .val (.int z62'), .val (.int (1 : Int32)), .unset] [(.int (4 : Int32)), (.ref b27)])) rfl rfl (hb hby at_232) _ k)
  obtain ⟨fs, hr, hrun, hended, hW, hsame⟩ := X91.leave (v := some (.int (1 : Int32))) (fun h => by rw [Bd.returns] at h; cases h)
  have KF := K108
  rw [hG] at KF
  refine ⟨_, _, KF _ ?_, hrun, hended, _, _, rfl, ?_, ⟨_, rfl⟩, hW, hsame.mono (by decide) (by decide)⟩
  · show Steps p.tables e below (T91.setTop (mkF m 233 #[.val (.int p1), .val (.int p2), .val (.int p3), .val (.int p4), .val (.int p5), .val (.int p6), .val (.int qv0), .val (.int qv1), .val (.int qv2), .val (.int qv3), .val (.int qv4), .val (.ref b27), .val (.int ((p6 &&& (2147483647 : Int32)) % (5 : Int32))), .val (.ref b62), .val (.int z62'), .val (.int (1 : Int32)), .unset] [(.int qv4)])) _
    refine XS.iload X91.here hx rfl (hb hby at_233) rfl ?_
    refine XS.icmpNo X91.here hx rfl (hb hby at_235) rfl (teq (rfl : qv4 = qv4)).2 ?_
    refine XS.iconst X91.here hx rfl (hb hby at_238) ?_
    refine XS.goto X91.here hx rfl (pc0 := 239) (pc' := 243) rfl (hb hby at_239) (by decide) (by decide) ?_
    show Steps p.tables e below (T91.setTop (mkF m 243 #[.val (.int p1), .val (.int p2), .val (.int p3), .val (.int p4), .val (.int p5), .val (.int p6), .val (.int qv0), .val (.int qv1), .val (.int qv2), .val (.int qv3), .val (.int qv4), .val (.ref b27), .val (.int ((p6 &&& (2147483647 : Int32)) % (5 : Int32))), .val (.ref b62), .val (.int z62'), .val (.int (1 : Int32)), .unset] [(.int (1 : Int32))])) _
    refine XS.istore X91.here hx rfl (hb hby at_243) rfl (l' := #[.val (.int p1), .val (.int p2), .val (.int p3), .val (.int p4), .val (.int p5), .val (.int p6), .val (.int qv0), .val (.int qv1), .val (.int qv2), .val (.int qv3), .val (.int qv4), .val (.ref b27), .val (.int ((p6 &&& (2147483647 : Int32)) % (5 : Int32))), .val (.ref b62), .val (.int z62'), .val (.int (1 : Int32)), .val (.int (1 : Int32))]) rfl ?_
    refine XS.iload X91.here hx rfl (hb hby at_245) rfl ?_
    refine XS.ifNo X91.here hx rfl (hb hby at_247) rfl ((if0 _ _).trans (feq (by decide)).1) ?_
    refine XS.iload X91.here hx rfl (hb hby at_250) rfl ?_
    show Steps p.tables e below (T91.setTop (mkF m 252 #[.val (.int p1), .val (.int p2), .val (.int p3), .val (.int p4), .val (.int p5), .val (.int p6), .val (.int qv0), .val (.int qv1), .val (.int qv2), .val (.int qv3), .val (.int qv4), .val (.ref b27), .val (.int ((p6 &&& (2147483647 : Int32)) % (5 : Int32))), .val (.ref b62), .val (.int z62'), .val (.int (1 : Int32)), .val (.int (1 : Int32))] [(.int (1 : Int32))])) _
    refine XS.ifNo X91.here hx rfl (hb hby at_252) rfl ((if0 _ _).trans (feq (by decide)).1) ?_
    refine XS.iconst X91.here hx rfl (hb hby at_255) ?_
    refine XS.goto X91.here hx rfl (pc0 := 256) (pc' := 260) rfl (hb hby at_256) (by decide) (by decide) ?_
    show Steps p.tables e below (T91.setTop (mkF m 260 #[.val (.int p1), .val (.int p2), .val (.int p3), .val (.int p4), .val (.int p5), .val (.int p6), .val (.int qv0), .val (.int qv1), .val (.int qv2), .val (.int qv3), .val (.int qv4), .val (.ref b27), .val (.int ((p6 &&& (2147483647 : Int32)) % (5 : Int32))), .val (.ref b62), .val (.int z62'), .val (.int (1 : Int32)), .val (.int (1 : Int32))] [(.int (1 : Int32))])) _
    exact retN X91 hx (t := .boolean) Bd.returns (by simp) (hb hby at_260) hr
  · show Q0 n0 _ T91.heap _
    rw [e91]
    exact ⟨rfl, N92⟩
set_option maxRecDepth 65536 in
set_option maxHeartbeats 40000000 in
theorem comes_1 {Post : Tables → Env → Array Value → State → Outcome → State → Prop} (hpost : ∀ tb e args s v u, (limb_1_1.after args s (.returned v) u = true ∧ limb_1_2.after args s (.returned v) u = true ∧ True) → FrameEnd s (.returned v) u (Jvm.fieldLocs frame_1_writes args s ++ Jvm.arrayLocs frame_1_arrays args s ++ Jvm.staticLocs frame_1_statics s) 16 128 → Post tb e args s (.returned v) u) :
    ArmFor flags0 classFile x code maxLocals ret World_1 tables_1 room_1 Calls_1 rest_1 Pre_1 Post := by
  intro l hfl _ _ p e ha hc hk s m args below hf hA hF happ hP
  obtain ⟨hcalls, hrest, hpre⟩ := hP
  obtain ⟨-, -, -, hnamed, -, -, -, hat⟩ := (Spec.applies_iff hf).mp happ
  obtain ⟨hg, hn⟩ := and_e (Cond.before_iff.mp (show (Jvm.Cond.and given_1 narrow_1).before args s = true from hpre))
  obtain ⟨gc, gr0⟩ := and_e hg
  obtain ⟨ga0, gr1⟩ := and_e gr0
  obtain ⟨ga1, gr2⟩ := and_e gr1
  obtain ⟨ga2, gr3⟩ := and_e gr2
  obtain ⟨ga3, gr4⟩ := and_e gr3
  obtain ⟨ga4, gr5⟩ := and_e gr4
  have ga5 := gr5
  obtain ⟨w0, w1, w2, w3, w4, w5, rfl⟩ : ∃ w0 w1 w2 w3 w4 w5 : Value, args = #[w0, w1, w2, w3, w4, w5] := by
    have hs : args.size = 6 := by simpa [Cond.value, given_1] using gc
    obtain ⟨L⟩ := args
    match L, hs with
    | [w0, w1, w2, w3, w4, w5], _ => exact ⟨w0, w1, w2, w3, w4, w5, rfl⟩
  have hw := fun d (hd : d ∈ tables_1) => atoms_spec (ws := Jvm.Cond.code x code maxLocals ret :: tables_1) hat d (List.mem_cons_of_mem _ hd)
  have hfit : Fit s := fun {y c} hc i hi => by
    obtain ⟨ha, rfl⟩ := Array.getElem?_eq_some_iff.mp hc
    have q := List.all_eq_true.mp ((Array.all_eq_true_iff_forall_mem.mp hF) _ (Array.getElem_mem ha)) i (List.mem_range.mpr hi)
    simpa [Array.getElem?_eq_getElem hi] using q
  obtain ⟨i0, ei0⟩ := is_v ga0
  obtain rfl : w0 = (.int i0) := Option.some.inj ei0
  obtain ⟨i1, ei1⟩ := is_v ga1
  obtain rfl : w1 = (.int i1) := Option.some.inj ei1
  obtain ⟨i2, ei2⟩ := is_v ga2
  obtain rfl : w2 = (.int i2) := Option.some.inj ei2
  obtain ⟨i3, ei3⟩ := is_v ga3
  obtain rfl : w3 = (.int i3) := Option.some.inj ei3
  obtain ⟨i4, ei4⟩ := is_v ga4
  obtain rfl : w4 = (.int i4) := Option.some.inj ei4
  obtain ⟨i5, ei5⟩ := is_v ga5
  obtain rfl : w5 = (.int i5) := Option.some.inj ei5
  obtain ⟨n, o, h1, h2, h3, _, L, rfl, ⟨rfl, N⟩, hq⟩ := rm0 l s _ hw tables_1 i0 i1 i2 i3 i4 i5  s.heap s.heap.size (Nat.le_refl _)  p e ha hc hk s m _ below hf ((Spec.applies_iff_loose hf).mp happ).1 ⟨rfl, State.Warmed39.refl s, rfl⟩ trivial
  refine ⟨n, _, h1, h2, h3, hpost _ _ _ _ _ _ ⟨Cond.after_iff.mpr rfl, Cond.after_iff.mpr (eq_i res_at (Term.int_eval (1)) rfl), trivial⟩ ⟨hq.1, hq.2.1, (hq.2.2.sift fun y hy => Or.inr (N y hy)).mono (by decide) (by decide)⟩⟩
theorem main_1_1 : Claimed_1_1 := comes_1 fun _ _ _ _ _ _ h hF => ⟨h.1, hF⟩
theorem main_1_2 : Claimed_1_2 := comes_1 fun _ _ _ _ _ _ h hF => ⟨h.2.1, hF⟩
end Jvm.Pilot.@@N@@
namespace Jvm.Pilot.@@N@@
open Jvm Jvm.ClassFile Sem Op Lib Jvm.Free Jvm.Stand Jvm.Pilot.@@N@@.Jvm.D
/-! MADE BY PROGRAM (witnessworld.py) out of the Statement's table words and the real class files: 9 classes; the members and pool entries that the words name. The judged class is class 1, her method 4. -/
namespace start1
open Jvm.ClassFile
def u (s : String) : CpInfo := .utf8 (stringToUtf16 s)
/-- a pool by its gaps: so many unusable entries, then the entry; so many at the end -/
def gap : Nat → List CpInfo → List CpInfo
  | 0, r => r
  | n + 1, r => .unusable :: gap n r
def poolList (es : List (Nat × CpInfo)) (last : Nat) : List CpInfo := es.foldr (fun e r => gap e.1 (e.2 :: r)) (gap last [])
def pool (es : List (Nat × CpInfo)) (last : Nat) : Array CpInfo := ⟨poolList es last⟩
def fileOf (pool : Array CpInfo) (this : Nat) (attrs : Array Attribute := #[]) (ms : Array MethodInfo := #[]) (fl : Nat := 33) (sup : Nat := 0) (ifs : Array Nat := #[]) (fds : Array FieldInfo := #[]) : ClassFile where
  minorVersion := 0
  majorVersion := 65
  constantPool := pool
  accessFlags := fl
  thisClass := this
  superClass := sup
  interfaces := ifs
  fields := fds
  methods := ms
  attributes := attrs
def plain (name : String) (sup : Option ClassId) : Class where
  name := name
  kind := .ordinary
  loader := none
  accessFlags := 33
  super := sup
  interfaces := #[]
  cf := none
  fields := #[]
  methods := #[]
  instanceTypes := #[]
  staticTypes := #[]
  resolved := #[]
  callSites := []
  init := .initialized
  statics := none
  mirror := none

def pool0 : Array CpInfo := pool [(5, u "<init>"), (0, u "()V"), (1, .class_ 10), (1, u "java/lang/Object")] 113

def k0m0 : Method := { name := "<init>", desc := "()V", sig := { parameters := [], returnType := none }, accessFlags := 1, code := none }
/-- java/lang/Object -/
def k0 : Class := { plain "java/lang/Object" none with
  accessFlags := 33
  interfaces := #[]
  cf := some (fileOf pool0 8 #[] #[{ accessFlags := 1, nameIndex := 5, descriptorIndex := 6, attributes := #[] }] 33 0 #[] #[])
  fields := #[]
  methods := #[k0m0]
  instanceTypes := #[]
  staticTypes := #[]
  resolved := Array.replicate 124 none
  statics := none }

def pool1 : Array CpInfo := pool [(2, .class_ 4), (1, u "java/lang/Object"), (0, u "<init>"), (0, u "()V"), (0, .methodref 8 9), (0, .class_ 10), (0, .nameAndType 11 12), (0, u "com/example/holdover/holdover/analysis/BreadthFirstPathPinLaw"), (0, u "neg"), (0, u "(I)I"), (0, .integer 2147483648), (0, .methodref 8 15), (0, .nameAndType 16 17), (0, u "draw"), (0, u "(II)I"), (0, .integer 2147483647), (0, .methodref 20 21), (0, .class_ 22), (0, .nameAndType 23 24), (0, u "com/example/holdover/holdover/analysis/BreadthFirst"), (0, u "path"), (0, u "([II)[I"), (0, .methodref 8 26), (0, .nameAndType 27 28), (0, u "link"), (0, u "([I[II)Z"), (3, u "law"), (0, u "(IIIIII)Z")] 4

def k1m0 : Method := { name := "<init>", desc := "()V", sig := { parameters := [], returnType := none }, accessFlags := 2, code := none }
def k1c1 : Code := { maxStack := 2, maxLocals := 1, code := method_2_code, exceptionTable := #[], attributes := #[] }
def k1m1 : Method := { name := "neg", desc := "(I)I", sig := { parameters := [.int], returnType := some .int }, accessFlags := 10, code := some k1c1 }
def k1c2 : Code := { maxStack := 2, maxLocals := 2, code := method_3_code, exceptionTable := #[], attributes := #[] }
def k1m2 : Method := { name := "draw", desc := "(II)I", sig := { parameters := [.int, .int], returnType := some .int }, accessFlags := 10, code := some k1c2 }
def k1c3 : Code := { maxStack := 4, maxLocals := 4, code := method_4_code, exceptionTable := #[], attributes := #[] }
def k1m3 : Method := { name := "link", desc := "([I[II)Z", sig := { parameters := [(.array .int), (.array .int), .int], returnType := some .boolean }, accessFlags := 10, code := some k1c3 }
def k1c4 : Code := { maxStack := 3, maxLocals := 17, code := code, exceptionTable := #[], attributes := #[] }
def k1m4 : Method := { name := "law", desc := "(IIIIII)Z", sig := { parameters := [.int, .int, .int, .int, .int, .int], returnType := some .boolean }, accessFlags := 9, code := some k1c4 }
/-- com/example/holdover/holdover/analysis/BreadthFirstPathPinLaw -/
def k1 : Class := { plain "com/example/holdover/holdover/analysis/BreadthFirstPathPinLaw" (some 0) with
  accessFlags := 49
  interfaces := #[]
  cf := some (fileOf pool1 8 #[] #[{ accessFlags := 2, nameIndex := 5, descriptorIndex := 6, attributes := #[] }, { accessFlags := 10, nameIndex := 11, descriptorIndex := 12, attributes := #[] }, { accessFlags := 10, nameIndex := 16, descriptorIndex := 17, attributes := #[] }, { accessFlags := 10, nameIndex := 27, descriptorIndex := 28, attributes := #[] }, { accessFlags := 9, nameIndex := 32, descriptorIndex := 33, attributes := #[] }] 49 2 #[] #[])
  fields := #[]
  methods := #[k1m0, k1m1, k1m2, k1m3, k1m4]
  instanceTypes := #[]
  staticTypes := #[]
  resolved := Array.replicate 38 none
  statics := none }

def pool2 : Array CpInfo := pool [(2, .class_ 4), (1, u "java/lang/Object"), (0, u "<init>"), (0, u "()V"), (1, .class_ 10), (1, u "com/example/holdover/holdover/analysis/BreadthFirst"), (15, .class_ 28), (1, u "com/example/holdover/holdover/analysis/BreadthFirst$Taken"), (9, .class_ 40), (1, u "com/example/holdover/holdover/analysis/BreadthFirst$Finds"), (46, .class_ 88), (0, u "com/example/holdover/holdover/analysis/BreadthFirst$1"), (6, u "UNREACHED"), (0, u "I"), (8, u "path"), (0, u "([II)[I")] 12

def k2m0 : Method := { name := "<init>", desc := "()V", sig := { parameters := [], returnType := none }, accessFlags := 2, code := none }
def k2c1 : Code := { maxStack := 3, maxLocals := 6, code := prog_14_method_5_code, exceptionTable := #[], attributes := #[] }
def k2m1 : Method := { name := "path", desc := "([II)[I", sig := { parameters := [(.array .int), .int], returnType := some (.array .int) }, accessFlags := 8, code := some k2c1 }
/-- com/example/holdover/holdover/analysis/BreadthFirst -/
def k2 : Class := { plain "com/example/holdover/holdover/analysis/BreadthFirst" (some 0) with
  accessFlags := 48
  interfaces := #[]
  cf := some (fileOf pool2 8 #[.nestMembers #[26, 38, 87]] #[{ accessFlags := 2, nameIndex := 5, descriptorIndex := 6, attributes := #[] }, { accessFlags := 8, nameIndex := 105, descriptorIndex := 106, attributes := #[] }] 48 2 #[] #[{ accessFlags := 24, nameIndex := 95, descriptorIndex := 96, attributes := #[] }])
  fields := #[{ name := "UNREACHED", type := .int, accessFlags := 24, slot := 0, constantValue := 0 }]
  methods := #[k2m0, k2m1]
  instanceTypes := #[]
  staticTypes := #[.int]
  resolved := Array.replicate 119 none
  statics := none }

def pool3 : Array CpInfo := pool [(1, u "java/lang/Cloneable"), (0, .class_ 1), (0, u "java/lang/Object"), (0, .class_ 3)] 3

/-- java/lang/Cloneable -/
def k3 : Class := { plain "java/lang/Cloneable" (some 0) with
  accessFlags := 1537
  interfaces := #[]
  cf := some (fileOf pool3 2 #[] #[] 1537 4 #[] #[])
  fields := #[]
  methods := #[]
  instanceTypes := #[]
  staticTypes := #[]
  resolved := Array.replicate 8 none
  statics := none }

def pool4 : Array CpInfo := pool [(1, u "java/io/Serializable"), (0, .class_ 1), (0, u "java/lang/Object"), (0, .class_ 3)] 3

/-- java/io/Serializable -/
def k4 : Class := { plain "java/io/Serializable" (some 0) with
  accessFlags := 1537
  interfaces := #[]
  cf := some (fileOf pool4 2 #[] #[] 1537 4 #[] #[])
  fields := #[]
  methods := #[]
  instanceTypes := #[]
  staticTypes := #[]
  resolved := Array.replicate 8 none
  statics := none }

/-- the primitive byte -/
def k5 : Class := { plain "byte" none with kind := .primitive 'B', accessFlags := 0x411 }
/-- [B -/
def k6 : Class := { plain "[B" (some 0) with kind := .array 5 .byte, interfaces := #[3, 4], accessFlags := 1041 }

/-- the primitive int -/
def k7 : Class := { plain "int" none with kind := .primitive 'I', accessFlags := 0x411 }
/-- [I -/
def k8 : Class := { plain "[I" (some 0) with kind := .array 7 .int, interfaces := #[3, 4], accessFlags := 1041 }

def heap : Heap := #[]
def classes : Array Class := #[k0, k1, k2, k3, k4, k5, k6, k7, k8]
def interned : List (Array UInt16 × Addr) := []
def slotsUsed : Nat := 0
def theMethod : MethodId := ⟨1, 4⟩
def args0 : Array Value := #[.int 5, .int 5, .int 5, .int 5, .int 5, .int 5]
def aboutOver (below : List Frame) : State where
  vm := { classes := classes, interned := interned.toArray }
  heap := heap
  slotsUsed := slotsUsed
  threads := #[{ frames := .invoking theMethod args0 :: below }]
def below0 : List Frame := [.native { method := ⟨0, 0⟩, args := #[] }]
def about1 : State := aboutOver below0
def p0 : Program := .bare "" "" ""
def e0 : Env := launch0.env 0 0 0
theorem w_frames : about1.frames = Frame.invoking theMethod args0 :: below0 := rfl
set_option maxRecDepth 65536 in
theorem w_args : argsFit about1.vm theMethod args0 = true := by decide +kernel
set_option maxRecDepth 65536 in
theorem w_heap : heapFits about1 = true := by decide +kernel
set_option maxRecDepth 65536 in
theorem w_runnable : about1.curStatus? = some .runnable := by decide +kernel
set_option maxRecDepth 65536 in
theorem w_alone : about1.alone = true := by decide +kernel
set_option maxRecDepth 65536 in
theorem w_named : about1.methodNamed? x = some theMethod := by decide +kernel
set_option maxRecDepth 65536 in
theorem w_hears : about1.hears theMethod below0 = true := by decide +kernel
set_option maxRecDepth 65536 in
theorem w_ripe : about1.ripe theMethod args0 below0 = true := by decide +kernel
theorem w_running : about1.status = .running := rfl
set_option maxRecDepth 65536 in
theorem w_room : about1.hasRoom e0.platform room_1 = true :=
  launch0.hasRoom_least _ room_1 (by decide +kernel) (by decide +kernel) (by decide +kernel) (by decide +kernel) (by decide +kernel) (by decide +kernel)
theorem allAtoms_all (ts : List Jvm.Cond) (a : Array Jvm.Value) (st : Jvm.State) : (allAtoms ts).before a st = ts.all (fun c => c.before a st) := by
  induction ts with
  | nil => rfl
  | cons c t ih =>
    show (Jvm.Cond.and c (allAtoms t)).before a st = _
    rw [Jvm.Cond.before_and, ih, List.all_cons]
def words1 : List Jvm.Cond := Jvm.Cond.code x code maxLocals ret :: tables_1
/-- a 'code' word, met by the world's own term for the bytes: nothing is compared byte by byte -/
theorem code_word {y : MethodName} {bytes : ByteArray} {mx : Nat} {rt : Option FieldType} {a : Array Value} {s : State} {m : MethodId} {meth : Method} {c : Code} (h1 : s.methodNamed? y = some m) (h2 : s.vm.method? m = some meth) (h3 : meth.code = some c) (h4 : c.code = bytes)
    (h5 : (c.maxLocals == mx && c.exceptionTable.isEmpty && decide (c.maxStack ≤ mostOperands) && decide (meth.sig.returnType = rt) && !meth.locks && decide (parseMethodDescriptor y.desc = some meth.sig)) = true) : (Jvm.Cond.code y bytes mx rt).before a s = true := by
  simp only [Bool.and_eq_true, beq_iff_eq, Bool.not_eq_true', decide_eq_true_eq] at h5
  obtain ⟨⟨⟨⟨⟨g1, g2⟩, g3⟩, g4⟩, g5⟩, g6⟩ := h5
  simp [Cond.before, Cond.holds, Cond.value, h1, h2, h3, h4, g1, g2, g3, g4, g5, g6]
def isCode : Jvm.Cond → Bool
  | .code _ _ _ _ => true
  | _ => false
theorem all_split {L : List Jvm.Cond} {P : Jvm.Cond → Bool} (h1 : L.all (fun c => isCode c || P c) = true) (h2 : ∀ c ∈ L.filter isCode, P c = true) : L.all P = true := by
  refine List.all_eq_true.mpr fun c hc => ?_
  have h := List.all_eq_true.mp h1 c hc
  rcases Bool.eq_false_or_eq_true (isCode c) with hi | hi
  · exact h2 c (List.mem_filter.mpr ⟨hc, hi⟩)
  · simpa [hi] using h
set_option maxRecDepth 65536 in
theorem w_c0 : (Jvm.Cond.code x code maxLocals ret).before args0 about1 = true := code_word (m := ⟨1, 4⟩) (meth := k1m4) (c := k1c4) (by decide +kernel) rfl rfl rfl (by decide +kernel)
set_option maxRecDepth 65536 in
theorem w_c1 : (Jvm.Cond.code ({ cls := "com/example/holdover/holdover/analysis/BreadthFirstPathPinLaw", name := "neg", desc := "(I)I" } : Jvm.MethodName) method_2_code (1 : Nat) (Option.some Jvm.ClassFile.FieldType.int)).before args0 about1 = true := code_word (m := ⟨1, 1⟩) (meth := k1m1) (c := k1c1) (by decide +kernel) rfl rfl rfl (by decide +kernel)
set_option maxRecDepth 65536 in
theorem w_c2 : (Jvm.Cond.code ({ cls := "com/example/holdover/holdover/analysis/BreadthFirstPathPinLaw", name := "draw", desc := "(II)I" } : Jvm.MethodName) method_3_code (2 : Nat) (Option.some Jvm.ClassFile.FieldType.int)).before args0 about1 = true := code_word (m := ⟨1, 2⟩) (meth := k1m2) (c := k1c2) (by decide +kernel) rfl rfl rfl (by decide +kernel)
set_option maxRecDepth 65536 in
theorem w_c3 : (Jvm.Cond.code ({ cls := "com/example/holdover/holdover/analysis/BreadthFirst", name := "path", desc := "([II)[I" } : Jvm.MethodName) prog_14_method_5_code (6 : Nat) (Option.some (Jvm.ClassFile.FieldType.array Jvm.ClassFile.FieldType.int))).before args0 about1 = true := code_word (m := ⟨2, 1⟩) (meth := k2m1) (c := k2c1) (by decide +kernel) rfl rfl rfl (by decide +kernel)
set_option maxRecDepth 65536 in
theorem w_c4 : (Jvm.Cond.code ({ cls := "com/example/holdover/holdover/analysis/BreadthFirstPathPinLaw", name := "link", desc := "([I[II)Z" } : Jvm.MethodName) method_4_code (4 : Nat) (Option.some Jvm.ClassFile.FieldType.boolean)).before args0 about1 = true := code_word (m := ⟨1, 3⟩) (meth := k1m3) (c := k1c3) (by decide +kernel) rfl rfl rfl (by decide +kernel)
def codes1 : List Jvm.Cond := [Jvm.Cond.code x code maxLocals ret, Jvm.Cond.code ({ cls := "com/example/holdover/holdover/analysis/BreadthFirstPathPinLaw", name := "neg", desc := "(I)I" } : Jvm.MethodName) method_2_code (1 : Nat) (Option.some Jvm.ClassFile.FieldType.int), Jvm.Cond.code ({ cls := "com/example/holdover/holdover/analysis/BreadthFirstPathPinLaw", name := "draw", desc := "(II)I" } : Jvm.MethodName) method_3_code (2 : Nat) (Option.some Jvm.ClassFile.FieldType.int), Jvm.Cond.code ({ cls := "com/example/holdover/holdover/analysis/BreadthFirst", name := "path", desc := "([II)[I" } : Jvm.MethodName) prog_14_method_5_code (6 : Nat) (Option.some (Jvm.ClassFile.FieldType.array Jvm.ClassFile.FieldType.int)), Jvm.Cond.code ({ cls := "com/example/holdover/holdover/analysis/BreadthFirstPathPinLaw", name := "link", desc := "([I[II)Z" } : Jvm.MethodName) method_4_code (4 : Nat) (Option.some Jvm.ClassFile.FieldType.boolean)]
set_option maxRecDepth 65536 in
theorem codes_eq : words1.filter isCode = codes1 := rfl
theorem w_codes : ∀ c ∈ words1.filter isCode, c.before args0 about1 = true := by
  rw [codes_eq]
  intro c hc
  simp only [codes1, List.mem_cons, List.not_mem_nil, or_false] at hc
  rcases hc with rfl | rfl | rfl | rfl | rfl
  · exact w_c0
  · exact w_c1
  · exact w_c2
  · exact w_c3
  · exact w_c4
set_option maxRecDepth 65536 in
theorem w_t1 : words1.all (fun c => isCode c || c.before args0 about1) = true := by decide +kernel
theorem w_tables : (allAtoms (Jvm.Cond.code x code maxLocals ret :: tables_1)).before args0 about1 = true := by
  rw [allAtoms_all]
  show words1.all (fun c => c.before args0 about1) = true
  refine all_split ?_ w_codes
  rw [w_t1]
set_option maxRecDepth 65536 in
theorem w_case : (Jvm.Cond.and given_1 narrow_1).before args0 about1 = true := by decide +kernel
theorem w_applies : (headSpec (Jvm.Cond.code x code maxLocals ret :: tables_1) room_1).applies x e0.platform about1 = true :=
  (Spec.applies_iff w_frames).mpr ⟨w_running, w_runnable, w_alone, w_named, w_hears, w_ripe, w_room, w_tables⟩
theorem atStart : AtStart classFile x code maxLocals ret World_1 tables_1 room_1 Calls_1 rest_1 Pre_1 launch0 p0 e0 about1 theMethod args0 below0 :=
  ⟨lists_1, trivial, launch0.admits_env _ _ _, launch0.least_env, fairChoices_fair.cas, fairChoices_fair.clock, w_frames, w_args, w_heap, w_applies, trivial, trivial, w_case⟩
end start1
theorem witness_1 : WitnessClaimed_1 := ⟨start1.p0, start1.e0, start1.about1, start1.theMethod, start1.args0, start1.below0, start1.atStart⟩
end Jvm.Pilot.@@N@@
