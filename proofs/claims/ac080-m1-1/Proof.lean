import JvmDerived
import JvmDerived.Pilot.@@N@@Statement
import JvmDerived.Pilot.@@N@@Code
set_option linter.unusedVariables false
set_option linter.unusedSimpArgs false
namespace Jvm.RoadKit
open Sem ClassFile Op Lib Jvm.Stand Jvm.Free Jvm.LawKit
section New
variable {p : Program} {l : Launch} {e : Env} {R : Room} {s : State} {m : MethodId} {args : Array Value} {below : List Frame} {meth : Method} {c : Code} {T : State} {locs : List Loc} {cells slots : Nat}
theorem own_retI (X : Stand p l e R s m args below meth c T locs cells slots) (hx : p.tables.exec = Jvm.exec) {pc : Nat} {Ls : Array Slot} {z : Int32} {rest : List Value} (hret : meth.sig.returnType = some .int) (hd : decode c.code pc = .ok (.ireturn, 1)) {fs : List Frame}
    (hl : ∀ (f : JFrame) (acts : List Action), f.method = m → f.locked = none → f.entered = [] → (doReturn e (T.setTop f) acts (some (.int z))).1 = T.setFrames fs) : Steps p.tables e below (T.setTop (mkF m pc Ls (.int z :: rest))) (T.setFrames fs) :=
  retOut X hx hret rfl (Or.inl ⟨rfl, Or.inl rfl, z, rfl⟩) hd hl
theorem own_retL (X : Stand p l e R s m args below meth c T locs cells slots) (hx : p.tables.exec = Jvm.exec) {pc : Nat} {Ls : Array Slot} {z : Int64} {rest : List Value} (hret : meth.sig.returnType = some .long) (hd : decode c.code pc = .ok (.lreturn, 1)) {fs : List Frame}
    (hl : ∀ (f : JFrame) (acts : List Action), f.method = m → f.locked = none → f.entered = [] → (doReturn e (T.setTop f) acts (some (.long z))).1 = T.setFrames fs) : Steps p.tables e below (T.setTop (mkF m pc Ls (.long z :: rest))) (T.setFrames fs) :=
  retOut X hx hret rfl (Or.inr (Or.inl ⟨rfl, rfl, z, rfl⟩)) hd hl
theorem own_retA (X : Stand p l e R s m args below meth c T locs cells slots) (hx : p.tables.exec = Jvm.exec) {pc : Nat} {Ls : Array Slot} {w : Value} {t : FieldType} {rest : List Value} (hret : meth.sig.returnType = some t) (ht : t.isReference = true) (hw : w.isRef = true) (hn : narrow t w = w) (hd : decode c.code pc = .ok (.areturn, 1)) {fs : List Frame}
    (hl : ∀ (f : JFrame) (acts : List Action), f.method = m → f.locked = none → f.entered = [] → (doReturn e (T.setTop f) acts (some w)).1 = T.setFrames fs) : Steps p.tables e below (T.setTop (mkF m pc Ls (w :: rest))) (T.setFrames fs) :=
  retOut X hx hret hn (Or.inr (Or.inr (Or.inr (Or.inr ⟨rfl, ht, hw⟩)))) hd hl
theorem own_lremM {g : JFrame} {target : State} (X : Stand p l e R s m args below meth c T locs cells slots) (hx : p.tables.exec = Jvm.exec) (hg : g.method = m) {x y : Int64} {rest : List Value} (hd : decode c.code g.pc = .ok (.lrem, 1)) (hs : g.stack = .long y :: .long x :: rest) (hy : y ≠ 0)
    (hr : Steps p.tables e below (T.setTop { g with pc := g.pc + 1, stack := .long (x % y) :: rest }) target) : Steps p.tables e below (T.setTop g) target := by
  have q : x - x / y * y = x % y := lrem_mod x y
  exact XS.lrem X.here hx hg hd hs hy (by rw [q]; exact hr)
theorem own_selp {Z s : State} {a0 args : Array Value} {y : MethodName} {n : Nat} (hZ : Z.Warmed39 s.vm) (wi : (Cond.instantiable y.cls n).before a0 Z = true) (wp : (Cond.privateMethod y).before a0 Z = true) (wm : (Cond.instanceMethod y).before a0 Z = true)
    (hy : y.cls ≠ "java/lang/invoke/MethodHandle" ∧ y.cls ≠ "java/lang/invoke/VarHandle") : (Cond.selects y.cls y y).before args s = true := by
  obtain ⟨c, k, h1, h2, h3, h4, -⟩ := Cond.instantiable_spec (mvT (args := args) hZ wi)
  exact selects_self_of_private h1 h2 (by simp only [Bool.or_eq_false_iff] at h4; exact h4.1) (Cond.privateMethod_at (mvP hZ wp (args := #[]))) (mvT hZ wm) hy
end New
end Jvm.RoadKit
namespace Jvm.Pilot.@@N@@
open Jvm Jvm.ClassFile Sem Op Lib Jvm.Free Jvm.Stand Jvm.LawKit Jvm.RoadKit Bundle Jvm.Pilot.@@N@@.Jvm.D
def own_ms (d n : Int64) : Int64 := if 0 < d - n then (d - n + 1000000 - 1) / 1000000 else 0
theorem own_up (x : Int64) (h1 : ¬ (9223372036853775808 : Int64) < x) (h2 : (0 : Int64) < x) : (x % 1000000 = 0 → (x + 1000000 - 1) / 1000000 = x / 1000000) ∧ (¬ x % 1000000 = 0 → (x + 1000000 - 1) / 1000000 = x / 1000000 + 1) := by
  have z0 : (0 : Int64).toInt = 0 := rfl
  have zM : (1000000 : Int64).toInt = 1000000 := rfl
  have z1 : (1 : Int64).toInt = 1 := rfl
  have zC : (9223372036853775808 : Int64).toInt = 9223372036853775808 := rfl
  rw [Int64.lt_iff_toInt_lt] at h1 h2
  have r := rng64 x
  have a1 := c_ladd x 1000000
  have a2 := c_lsub (x + 1000000) 1
  have r1 := rng64 (x + 1000000)
  have r2 := rng64 (x + 1000000 - 1)
  have s : (x + 1000000 - 1).toInt = x.toInt + 999999 := by omega
  have d1 := (c_ldiv x 1000000 1000000 zM (by decide)).1 (by omega)
  have d2 := (c_ldiv (x + 1000000 - 1) 1000000 1000000 zM (by decide)).1 (by omega)
  have m1 : (x % 1000000).toInt = x.toInt % 1000000 := by rw [Int64.toInt_mod, zM]; exact Int.tmod_eq_emod_of_nonneg (by omega)
  have e0 : x % 1000000 = 0 ↔ x.toInt % 1000000 = 0 := by rw [← Int64.toInt_inj, m1, z0]
  rw [e0]
  have a3 := c_ladd (x / 1000000) 1
  have r3 := rng64 (x / 1000000 + 1)
  refine ⟨fun h => Int64.toInt_inj.mp ?_, fun h => Int64.toInt_inj.mp ?_⟩
  · rw [d1, d2, s]; omega
  · rw [d2, s]; omega
theorem own_a (d n : Int64) (h : ¬ (0 : Int64) < d - n) : own_ms d n = 0 := by rw [own_ms, if_neg h]
theorem own_b (d n : Int64) (h1 : ¬ (9223372036853775808 : Int64) < d - n) (h2 : (0 : Int64) < d - n) (h3 : (d - n) % 1000000 = 0) : own_ms d n = (d - n) / 1000000 := by rw [own_ms, if_pos h2]; exact (own_up _ h1 h2).1 h3
theorem own_c (d n : Int64) (h1 : ¬ (9223372036853775808 : Int64) < d - n) (h2 : (0 : Int64) < d - n) (h3 : ¬ (d - n) % 1000000 = 0) : own_ms d n = (d - n) / 1000000 + 1 := by rw [own_ms, if_pos h2]; exact (own_up _ h1 h2).2 h3
def Q1 (q1 q2 : Int64) (h0 : Heap) (n0 : Nat) (v : Option Value) (h : Heap) (L : List Loc) : Prop := v = some (.long (own_ms q1 q2)) ∧ Fr n0 L ∧ h = h0
theorem d1_0 : decode prog_10_method_10_code 0 = .ok (.lload_n 0, 1) := by decide +kernel
theorem d1_1 : decode prog_10_method_10_code 1 = .ok (.lload_n 2, 1) := by decide +kernel
theorem d1_2 : decode prog_10_method_10_code 2 = .ok (.lsub, 1) := by decide +kernel
theorem d1_3 : decode prog_10_method_10_code 3 = .ok (.lstore 4, 2) := by decide +kernel
theorem d1_5 : decode prog_10_method_10_code 5 = .ok (.lload 4, 2) := by decide +kernel
theorem d1_7 : decode prog_10_method_10_code 7 = .ok (.lconst 0, 1) := by decide +kernel
theorem d1_8 : decode prog_10_method_10_code 8 = .ok (.lcmp, 1) := by decide +kernel
theorem d1_9 : decode prog_10_method_10_code 9 = .ok (.ifCond .gt 7, 3) := by decide +kernel
theorem d1_12 : decode prog_10_method_10_code 12 = .ok (.lconst 0, 1) := by decide +kernel
theorem d1_13 : decode prog_10_method_10_code 13 = .ok (.goto 15, 3) := by decide +kernel
theorem d1_16 : decode prog_10_method_10_code 16 = .ok (.lload 4, 2) := by decide +kernel
theorem d1_18 : decode prog_10_method_10_code 18 = .ok (.getstatic 188, 3) := by decide +kernel
theorem d1_21 : decode prog_10_method_10_code 21 = .ok (.ladd, 1) := by decide +kernel
theorem d1_22 : decode prog_10_method_10_code 22 = .ok (.lconst 1, 1) := by decide +kernel
theorem d1_23 : decode prog_10_method_10_code 23 = .ok (.lsub, 1) := by decide +kernel
theorem d1_24 : decode prog_10_method_10_code 24 = .ok (.getstatic 188, 3) := by decide +kernel
theorem d1_27 : decode prog_10_method_10_code 27 = .ok (.ldiv, 1) := by decide +kernel
theorem d1_28 : decode prog_10_method_10_code 28 = .ok (.lreturn, 1) := by decide +kernel
theorem pn_com_example_turnwire_turnwire_Game : plainName "com/example/turnwire/turnwire/Game" = true := by first | (simp [plainName, overriddenIn]; done) | decide +kernel
theorem ef_rm1 (m : MethodId) (x0 : Int64) (x1 : Int64) : entryFrame m #[(.long x0), (.long x1)] 6 = mkF m 0 #[.val (.long x0), .second, .val (.long x1), .second, .unset, .unset] [] := by first | (simp [entryFrame, mkF, argsToLocals, Value.category]; done) | rfl
set_option maxRecDepth 65536 in
set_option maxHeartbeats 40000000 in
theorem rm1 (l : Launch) (Z : State) (a0 : Array Value) (hw : ∀ d ∈ tables_1, d.before a0 Z = true) (ws : List Jvm.Cond) (q1 q2 : Int64) (h0 : Heap) (n0 : Nat) (Z0 : n0 ≤ h0.size) (S0 : Sta Z h0 "com/example/turnwire/turnwire/Game" "NANOS_PER_MILLI" "J" (.long (1000000 : Int64))) :
    MetFree l (⟨"com/example/turnwire/turnwire/Game", "millisUntil", "(JJ)J"⟩ : MethodName) (head1 (Jvm.Cond.code (⟨"com/example/turnwire/turnwire/Game", "millisUntil", "(JJ)J"⟩ : MethodName) prog_10_method_10_code 6 (some .long) :: ws) ({ frames := 0, cells := 0, slots := 0, locals := 0 } : Room)) (fun a U => a = #[(.long q1), (.long q2)] ∧ Z.Warmed39 U.vm ∧ U.heap = h0) (fun _ _ _ _ _ => True) (fun _ U o U' => ∃ v L, o = .returned v ∧ Q1 q1 q2 h0 n0 v U'.heap L ∧ FrameEnd U o U' L ({ frames := 0, cells := 0, slots := 0, locals := 0 } : Room).cells ({ frames := 0, cells := 0, slots := 0, locals := 0 } : Room).slots) := by
  refine MetFree.of_bodySF (plainFor_of_name pn_com_example_turnwire_turnwire_Game) hisR ?_
  intro p e s m args below meth c s₁ Bd hml0 hP hK
  obtain ⟨rfl, hZ, hh⟩ := hP
  have hx := Bd.exec
  have hby := Bd.bytes
  have hml : c.maxLocals = 6 := hml0
  have hown : s.vm.findClass "com/example/turnwire/turnwire/Game" = some m.cls := findClass_of_methodNamed Bd.named
  have hnm := (name_of_methodNamed Bd.named Bd.method).1
  have X0 : Stand p l e ({ frames := 0, cells := 0, slots := 0, locals := 0 } : Room) s m #[(.long q1), (.long q2)] below meth c s₁ [] 0 0 := Stand.of_body Bd
  have e0 : s₁.heap = h0 := by rw [← hh, Bd.state]; rfl
  have N0 := Fr.nil n0
  have KP0 : Keep h0 h0 [] := Keep.refl h0 _
  obtain ⟨G, hG⟩ : ∃ G : State, G = s₁.setTop (entryFrame m #[(.long q1), (.long q2)] 6) := ⟨_, rfl⟩
  have pre0 : ∀ t, Steps p.tables e below (s₁.setTop (mkF m 0 #[.val (.long q1), .second, .val (.long q2), .second, .unset, .unset] [])) t → Steps p.tables e below G t := fun t k => hG ▸ castTop (ef_rm1 m q1 q2) k
  have K1 : ∀ t, Steps p.tables e below (s₁.setTop (mkF m 9 #[.val (.long q1), .second, .val (.long q2), .second, .val (.long (q1 - q2)), .second] [(.int (lcmpW (q1 - q2) (0 : Int64)))])) t → Steps p.tables e below G t := by
    intro t k
    refine pre0 t ?_
    show Steps p.tables e below (s₁.setTop (mkF m 0 #[.val (.long q1), .second, .val (.long q2), .second, .unset, .unset] [])) _
    refine XS.lloadN X0.here hx rfl (hb hby d1_0) rfl ?_
    show Steps p.tables e below (s₁.setTop (mkF m 1 #[.val (.long q1), .second, .val (.long q2), .second, .unset, .unset] [(.long q1)])) _
    refine XS.lloadN X0.here hx rfl (hb hby d1_1) rfl ?_
    show Steps p.tables e below (s₁.setTop (mkF m 2 #[.val (.long q1), .second, .val (.long q2), .second, .unset, .unset] [(.long q2), (.long q1)])) _
    refine XS.lsub X0.here hx rfl (hb hby d1_2) rfl ?_
    show Steps p.tables e below (s₁.setTop (mkF m 3 #[.val (.long q1), .second, .val (.long q2), .second, .unset, .unset] [(.long (q1 - q2))])) _
    refine XS.lstore X0.here hx rfl (hb hby d1_3) rfl (l' := #[.val (.long q1), .second, .val (.long q2), .second, .val (.long (q1 - q2)), .second]) rfl ?_
    show Steps p.tables e below (s₁.setTop (mkF m 5 #[.val (.long q1), .second, .val (.long q2), .second, .val (.long (q1 - q2)), .second] [])) _
    refine XS.lload X0.here hx rfl (hb hby d1_5) rfl ?_
    show Steps p.tables e below (s₁.setTop (mkF m 7 #[.val (.long q1), .second, .val (.long q2), .second, .val (.long (q1 - q2)), .second] [(.long (q1 - q2))])) _
    refine XS.lconst X0.here hx rfl (hb hby d1_7) ?_
    show Steps p.tables e below (s₁.setTop (mkF m 8 #[.val (.long q1), .second, .val (.long q2), .second, .val (.long (q1 - q2)), .second] [(.long (0 : Int64)), (.long (q1 - q2))])) _
    refine XS.lcmp X0.here hx rfl (hb hby d1_8) rfl ?_
    show Steps p.tables e below (s₁.setTop (mkF m 9 #[.val (.long q1), .second, .val (.long q2), .second, .val (.long (q1 - q2)), .second] [(.int (lcmpW (q1 - q2) (0 : Int64)))])) _
    exact k
  by_cases hc2 : (0 : Int64) < (q1 - q2)
  · have K3 : ∀ t, Steps p.tables e below (s₁.setTop (mkF m 18 #[.val (.long q1), .second, .val (.long q2), .second, .val (.long (q1 - q2)), .second] [(.long (q1 - q2))])) t → Steps p.tables e below G t := by
      intro t k
      refine K1 t ?_
      show Steps p.tables e below (s₁.setTop (mkF m 9 #[.val (.long q1), .second, .val (.long q2), .second, .val (.long (q1 - q2)), .second] [(.int (lcmpW (q1 - q2) (0 : Int64)))])) _
      refine XS.ifYes X0.here hx rfl (pc0 := 9) (pc' := 16) rfl (hb hby d1_9) rfl ((if0 _ _).trans (tlt ((lw_gt (q1 - q2) (0 : Int64)).mpr hc2)).2.2.1) (by decide) (by decide) ?_
      show Steps p.tables e below (s₁.setTop (mkF m 16 #[.val (.long q1), .second, .val (.long q2), .second, .val (.long (q1 - q2)), .second] [])) _
      refine XS.lload X0.here hx rfl (hb hby d1_16) rfl ?_
      show Steps p.tables e below (s₁.setTop (mkF m 18 #[.val (.long q1), .second, .val (.long q2), .second, .val (.long (q1 - q2)), .second] [(.long (q1 - q2))])) _
      exact k
    obtain ⟨T4, X4, e4, st4⟩ := getS2 X0 hx hZ hown (host := "") (Or.inl (hw _ (List.mem_of_getElem? (i := 6) rfl))) Via.refl e0 S0 (g := (mkF m 18 #[.val (.long q1), .second, .val (.long q2), .second, .val (.long (q1 - q2)), .second] [(.long (q1 - q2))])) rfl (hb hby d1_18)
    have K5 : ∀ t, Steps p.tables e below (T4.setTop (mkF m 21 #[.val (.long q1), .second, .val (.long q2), .second, .val (.long (q1 - q2)), .second] [(.long (1000000 : Int64)), (.long (q1 - q2))])) t → Steps p.tables e below G t := fun t k => K3 t (st4 t k)
    have K6 : ∀ t, Steps p.tables e below (T4.setTop (mkF m 24 #[.val (.long q1), .second, .val (.long q2), .second, .val (.long (q1 - q2)), .second] [(.long (((q1 - q2) + (1000000 : Int64)) - (1 : Int64)))])) t → Steps p.tables e below G t := by
      intro t k
      refine K5 t ?_
      show Steps p.tables e below (T4.setTop (mkF m 21 #[.val (.long q1), .second, .val (.long q2), .second, .val (.long (q1 - q2)), .second] [(.long (1000000 : Int64)), (.long (q1 - q2))])) _
      refine XS.ladd X4.here hx rfl (hb hby d1_21) rfl ?_
      show Steps p.tables e below (T4.setTop (mkF m 22 #[.val (.long q1), .second, .val (.long q2), .second, .val (.long (q1 - q2)), .second] [(.long ((q1 - q2) + (1000000 : Int64)))])) _
      refine XS.lconst X4.here hx rfl (hb hby d1_22) ?_
      show Steps p.tables e below (T4.setTop (mkF m 23 #[.val (.long q1), .second, .val (.long q2), .second, .val (.long (q1 - q2)), .second] [(.long (1 : Int64)), (.long ((q1 - q2) + (1000000 : Int64)))])) _
      refine XS.lsub X4.here hx rfl (hb hby d1_23) rfl ?_
      show Steps p.tables e below (T4.setTop (mkF m 24 #[.val (.long q1), .second, .val (.long q2), .second, .val (.long (q1 - q2)), .second] [(.long (((q1 - q2) + (1000000 : Int64)) - (1 : Int64)))])) _
      exact k
    obtain ⟨T7, X7, e7, st7⟩ := getS2 X4 hx hZ hown (host := "") (Or.inl (hw _ (List.mem_of_getElem? (i := 6) rfl))) Via.refl e4 S0 (g := (mkF m 24 #[.val (.long q1), .second, .val (.long q2), .second, .val (.long (q1 - q2)), .second] [(.long (((q1 - q2) + (1000000 : Int64)) - (1 : Int64)))])) rfl (hb hby d1_24)
    have K8 : ∀ t, Steps p.tables e below (T7.setTop (mkF m 27 #[.val (.long q1), .second, .val (.long q2), .second, .val (.long (q1 - q2)), .second] [(.long (1000000 : Int64)), (.long (((q1 - q2) + (1000000 : Int64)) - (1 : Int64)))])) t → Steps p.tables e below G t := fun t k => K6 t (st7 t k)
    obtain ⟨fs, hr, hrun, hended, hW, hsame⟩ := X7.leave (v := some (.long ((((q1 - q2) + (1000000 : Int64)) - (1 : Int64)) / (1000000 : Int64)))) (fun h => by rw [Bd.returns] at h; cases h)
    have KF := K8
    rw [hG] at KF
    refine ⟨_, _, KF _ ?_, hrun, hended, _, _, rfl, ?_, ⟨_, rfl⟩, hW, hsame.mono (by decide) (by decide)⟩
    · show Steps p.tables e below (T7.setTop (mkF m 27 #[.val (.long q1), .second, .val (.long q2), .second, .val (.long (q1 - q2)), .second] [(.long (1000000 : Int64)), (.long (((q1 - q2) + (1000000 : Int64)) - (1 : Int64)))])) _
      refine XS.ldiv X7.here hx rfl (hb hby d1_27) rfl (by decide) ?_
      show Steps p.tables e below (T7.setTop (mkF m 28 #[.val (.long q1), .second, .val (.long q2), .second, .val (.long (q1 - q2)), .second] [(.long ((((q1 - q2) + (1000000 : Int64)) - (1 : Int64)) / (1000000 : Int64)))])) _
      exact own_retL X7 hx Bd.returns (hb hby d1_28) hr
    · show Q1 q1 q2 h0 n0 _ T7.heap _
      rw [e7]
      exact ⟨by rw [own_ms, if_pos hc2], N0, rfl⟩
  · obtain ⟨fs, hr, hrun, hended, hW, hsame⟩ := X0.leave (v := some (.long (0 : Int64))) (fun h => by rw [Bd.returns] at h; cases h)
    have KF := K1
    rw [hG] at KF
    refine ⟨_, _, KF _ ?_, hrun, hended, _, _, rfl, ?_, ⟨_, rfl⟩, hW, hsame.mono (by decide) (by decide)⟩
    · show Steps p.tables e below (s₁.setTop (mkF m 9 #[.val (.long q1), .second, .val (.long q2), .second, .val (.long (q1 - q2)), .second] [(.int (lcmpW (q1 - q2) (0 : Int64)))])) _
      refine XS.ifNo X0.here hx rfl (hb hby d1_9) rfl ((if0 _ _).trans (flt (fun q => hc2 ((lw_gt (q1 - q2) (0 : Int64)).mp q))).2.2.1) ?_
      show Steps p.tables e below (s₁.setTop (mkF m 12 #[.val (.long q1), .second, .val (.long q2), .second, .val (.long (q1 - q2)), .second] [])) _
      refine XS.lconst X0.here hx rfl (hb hby d1_12) ?_
      show Steps p.tables e below (s₁.setTop (mkF m 13 #[.val (.long q1), .second, .val (.long q2), .second, .val (.long (q1 - q2)), .second] [(.long (0 : Int64))])) _
      refine XS.goto X0.here hx rfl (pc0 := 13) (pc' := 28) rfl (hb hby d1_13) (by decide) (by decide) ?_
      show Steps p.tables e below (s₁.setTop (mkF m 28 #[.val (.long q1), .second, .val (.long q2), .second, .val (.long (q1 - q2)), .second] [(.long (0 : Int64))])) _
      exact own_retL X0 hx Bd.returns (hb hby d1_28) hr
    · show Q1 q1 q2 h0 n0 _ s₁.heap _
      rw [e0]
      exact ⟨by rw [own_ms, if_neg hc2], N0, rfl⟩
def Q0 (n0 : Nat) (v : Option Value) (h : Heap) (L : List Loc) : Prop := v = some (.int 1) ∧ Fr n0 L
theorem pn_com_example_turnwire_turnwire_GameMillisUntilPinLaw : plainName "com/example/turnwire/turnwire/GameMillisUntilPinLaw" = true := by first | (simp [plainName, overriddenIn]; done) | decide +kernel
theorem pd_0 : parseMethodDescriptor "(JJ)J" = some ⟨[.long, .long], some .long⟩ := by decide +kernel
theorem ef_rm0 (m : MethodId) (x0 : Int64) (x1 : Int64) : entryFrame m #[(.long x0), (.long x1)] maxLocals = mkF m 0 #[.val (.long x0), .second, .val (.long x1), .second, .unset, .unset, .unset, .unset, .unset, .unset, .unset, .unset] [] := by first | (simp [entryFrame, mkF, argsToLocals, Value.category, maxLocals]; done) | rfl
set_option maxRecDepth 65536 in
set_option maxHeartbeats 40000000 in
theorem rm0 (l : Launch) (Z : State) (a0 : Array Value) (hw : ∀ d ∈ tables_1, d.before a0 Z = true) (ws : List Jvm.Cond) (q1 q2 : Int64) (h0 : Heap) (n0 : Nat) (Z0 : n0 ≤ h0.size) (S0 : Sta Z h0 "com/example/turnwire/turnwire/Game" "NANOS_PER_MILLI" "J" (.long (1000000 : Int64))) :
    MetFree l x (head1 (Jvm.Cond.code x code maxLocals ret :: ws) room_1) (fun a U => a = #[(.long q1), (.long q2)] ∧ Z.Warmed39 U.vm ∧ U.heap = h0) (fun _ _ _ _ _ => True) (fun _ U o U' => ∃ v L, o = .returned v ∧ Q0 n0 v U'.heap L ∧ FrameEnd U o U' L room_1.cells room_1.slots) := by
  refine MetFree.of_bodySF (plainFor_of_name pn_com_example_turnwire_turnwire_GameMillisUntilPinLaw) hisR ?_
  intro p e s m args below meth c s₁ Bd hml0 hP hK
  obtain ⟨rfl, hZ, hh⟩ := hP
  have hx := Bd.exec
  have hby := Bd.bytes
  have hml : c.maxLocals = 12 := hml0
  have hown : s.vm.findClass "com/example/turnwire/turnwire/GameMillisUntilPinLaw" = some m.cls := findClass_of_methodNamed Bd.named
  have hnm := (name_of_methodNamed Bd.named Bd.method).1
  have X0 : Stand p l e room_1 s m #[(.long q1), (.long q2)] below meth c s₁ [] 0 0 := Stand.of_body Bd
  have e0 : s₁.heap = h0 := by rw [← hh, Bd.state]; rfl
  have N0 := Fr.nil n0
  have KP0 : Keep h0 h0 [] := Keep.refl h0 _
  obtain ⟨G, hG⟩ : ∃ G : State, G = s₁.setTop (entryFrame m #[(.long q1), (.long q2)] maxLocals) := ⟨_, rfl⟩
  have pre0 : ∀ t, Steps p.tables e below (s₁.setTop (mkF m 0 #[.val (.long q1), .second, .val (.long q2), .second, .unset, .unset, .unset, .unset, .unset, .unset, .unset, .unset] [])) t → Steps p.tables e below G t := fun t k => hG ▸ castTop (ef_rm0 m q1 q2) k
  have K1 : ∀ t, Steps p.tables e below (s₁.setTop (mkF m 11 #[.val (.long q1), .second, .val (.long q2), .second, .val (.long (q1 - q2)), .second, .unset, .unset, .unset, .unset, .unset, .unset] [(.int (lcmpW (q1 - q2) (9223372036853775808 : Int64)))])) t → Steps p.tables e below G t := by
    intro t k
    refine pre0 t ?_
    show Steps p.tables e below (s₁.setTop (mkF m 0 #[.val (.long q1), .second, .val (.long q2), .second, .unset, .unset, .unset, .unset, .unset, .unset, .unset, .unset] [])) _
    refine XS.lloadN X0.here hx rfl (hb hby at_0) rfl ?_
    show Steps p.tables e below (s₁.setTop (mkF m 1 #[.val (.long q1), .second, .val (.long q2), .second, .unset, .unset, .unset, .unset, .unset, .unset, .unset, .unset] [(.long q1)])) _
    refine XS.lloadN X0.here hx rfl (hb hby at_1) rfl ?_
    show Steps p.tables e below (s₁.setTop (mkF m 2 #[.val (.long q1), .second, .val (.long q2), .second, .unset, .unset, .unset, .unset, .unset, .unset, .unset, .unset] [(.long q2), (.long q1)])) _
    refine XS.lsub X0.here hx rfl (hb hby at_2) rfl ?_
    show Steps p.tables e below (s₁.setTop (mkF m 3 #[.val (.long q1), .second, .val (.long q2), .second, .unset, .unset, .unset, .unset, .unset, .unset, .unset, .unset] [(.long (q1 - q2))])) _
    refine XS.lstore X0.here hx rfl (hb hby at_3) rfl (l' := #[.val (.long q1), .second, .val (.long q2), .second, .val (.long (q1 - q2)), .second, .unset, .unset, .unset, .unset, .unset, .unset]) rfl ?_
    show Steps p.tables e below (s₁.setTop (mkF m 5 #[.val (.long q1), .second, .val (.long q2), .second, .val (.long (q1 - q2)), .second, .unset, .unset, .unset, .unset, .unset, .unset] [])) _
    refine XS.lload X0.here hx rfl (hb hby at_5) rfl ?_
    show Steps p.tables e below (s₁.setTop (mkF m 7 #[.val (.long q1), .second, .val (.long q2), .second, .val (.long (q1 - q2)), .second, .unset, .unset, .unset, .unset, .unset, .unset] [(.long (q1 - q2))])) _
    refine X0.ldc2Long hx hown (mvT hZ (hw _ (List.mem_of_getElem? (i := 0) rfl))) (g := (mkF m 7 #[.val (.long q1), .second, .val (.long q2), .second, .val (.long (q1 - q2)), .second, .unset, .unset, .unset, .unset, .unset, .unset] [(.long (q1 - q2))])) rfl (hb hby at_7) _ ?_
    show Steps p.tables e below (s₁.setTop (mkF m 10 #[.val (.long q1), .second, .val (.long q2), .second, .val (.long (q1 - q2)), .second, .unset, .unset, .unset, .unset, .unset, .unset] [(.long (9223372036853775808 : Int64)), (.long (q1 - q2))])) _
    refine XS.lcmp X0.here hx rfl (hb hby at_10) rfl ?_
    show Steps p.tables e below (s₁.setTop (mkF m 11 #[.val (.long q1), .second, .val (.long q2), .second, .val (.long (q1 - q2)), .second, .unset, .unset, .unset, .unset, .unset, .unset] [(.int (lcmpW (q1 - q2) (9223372036853775808 : Int64)))])) _
    exact k
  by_cases hc2 : (9223372036853775808 : Int64) < (q1 - q2)
  · obtain ⟨fs, hr, hrun, hended, hW, hsame⟩ := X0.leave (v := some (.int (1 : Int32))) (fun h => by rw [Bd.returns] at h; cases h)
    have KF := K1
    rw [hG] at KF
    refine ⟨_, _, KF _ ?_, hrun, hended, _, _, rfl, ?_, ⟨_, rfl⟩, hW, hsame.mono (by decide) (by decide)⟩
    · show Steps p.tables e below (s₁.setTop (mkF m 11 #[.val (.long q1), .second, .val (.long q2), .second, .val (.long (q1 - q2)), .second, .unset, .unset, .unset, .unset, .unset, .unset] [(.int (lcmpW (q1 - q2) (9223372036853775808 : Int64)))])) _
      refine XS.ifNo X0.here hx rfl (hb hby at_11) rfl ((if0 _ _).trans (tlt ((lw_gt (q1 - q2) (9223372036853775808 : Int64)).mpr hc2)).2.2.2) ?_
      show Steps p.tables e below (s₁.setTop (mkF m 14 #[.val (.long q1), .second, .val (.long q2), .second, .val (.long (q1 - q2)), .second, .unset, .unset, .unset, .unset, .unset, .unset] [])) _
      refine XS.iconst X0.here hx rfl (hb hby at_14) ?_
      show Steps p.tables e below (s₁.setTop (mkF m 15 #[.val (.long q1), .second, .val (.long q2), .second, .val (.long (q1 - q2)), .second, .unset, .unset, .unset, .unset, .unset, .unset] [(.int (1 : Int32))])) _
      exact retN X0 hx (t := .boolean) Bd.returns (by simp) (hb hby at_15) hr
    · show Q0 n0 _ s₁.heap _
      rw [e0]
      exact ⟨rfl, N0⟩
  · have K3 : ∀ t, Steps p.tables e below (s₁.setTop (mkF m 20 #[.val (.long q1), .second, .val (.long q2), .second, .val (.long (q1 - q2)), .second, .unset, .unset, .unset, .unset, .unset, .unset] [(.int (lcmpW (q1 - q2) (0 : Int64)))])) t → Steps p.tables e below G t := by
      intro t k
      refine K1 t ?_
      show Steps p.tables e below (s₁.setTop (mkF m 11 #[.val (.long q1), .second, .val (.long q2), .second, .val (.long (q1 - q2)), .second, .unset, .unset, .unset, .unset, .unset, .unset] [(.int (lcmpW (q1 - q2) (9223372036853775808 : Int64)))])) _
      refine XS.ifYes X0.here hx rfl (pc0 := 11) (pc' := 16) rfl (hb hby at_11) rfl ((if0 _ _).trans (flt (fun q => hc2 ((lw_gt (q1 - q2) (9223372036853775808 : Int64)).mp q))).2.2.2) (by decide) (by decide) ?_
      show Steps p.tables e below (s₁.setTop (mkF m 16 #[.val (.long q1), .second, .val (.long q2), .second, .val (.long (q1 - q2)), .second, .unset, .unset, .unset, .unset, .unset, .unset] [])) _
      refine XS.lload X0.here hx rfl (hb hby at_16) rfl ?_
      show Steps p.tables e below (s₁.setTop (mkF m 18 #[.val (.long q1), .second, .val (.long q2), .second, .val (.long (q1 - q2)), .second, .unset, .unset, .unset, .unset, .unset, .unset] [(.long (q1 - q2))])) _
      refine XS.lconst X0.here hx rfl (hb hby at_18) ?_
      show Steps p.tables e below (s₁.setTop (mkF m 19 #[.val (.long q1), .second, .val (.long q2), .second, .val (.long (q1 - q2)), .second, .unset, .unset, .unset, .unset, .unset, .unset] [(.long (0 : Int64)), (.long (q1 - q2))])) _
      refine XS.lcmp X0.here hx rfl (hb hby at_19) rfl ?_
      show Steps p.tables e below (s₁.setTop (mkF m 20 #[.val (.long q1), .second, .val (.long q2), .second, .val (.long (q1 - q2)), .second, .unset, .unset, .unset, .unset, .unset, .unset] [(.int (lcmpW (q1 - q2) (0 : Int64)))])) _
      exact k
    by_cases hc4 : (0 : Int64) < (q1 - q2)
    · have K5 : ∀ t, Steps p.tables e below (s₁.setTop (mkF m 49 #[.val (.long q1), .second, .val (.long q2), .second, .val (.long (q1 - q2)), .second, .unset, .unset, .val (.long ((q1 - q2) / (1000000 : Int64))), .second, .val (.long ((q1 - q2) % (1000000 : Int64))), .second] [(.int (lcmpW ((q1 - q2) % (1000000 : Int64)) (0 : Int64)))])) t → Steps p.tables e below G t := by
        intro t k
        refine K3 t ?_
        show Steps p.tables e below (s₁.setTop (mkF m 20 #[.val (.long q1), .second, .val (.long q2), .second, .val (.long (q1 - q2)), .second, .unset, .unset, .unset, .unset, .unset, .unset] [(.int (lcmpW (q1 - q2) (0 : Int64)))])) _
        refine XS.ifYes X0.here hx rfl (pc0 := 20) (pc' := 29) rfl (hb hby at_20) rfl ((if0 _ _).trans (tlt ((lw_gt (q1 - q2) (0 : Int64)).mpr hc4)).2.2.1) (by decide) (by decide) ?_
        show Steps p.tables e below (s₁.setTop (mkF m 29 #[.val (.long q1), .second, .val (.long q2), .second, .val (.long (q1 - q2)), .second, .unset, .unset, .unset, .unset, .unset, .unset] [])) _
        refine XS.lload X0.here hx rfl (hb hby at_29) rfl ?_
        show Steps p.tables e below (s₁.setTop (mkF m 31 #[.val (.long q1), .second, .val (.long q2), .second, .val (.long (q1 - q2)), .second, .unset, .unset, .unset, .unset, .unset, .unset] [(.long (q1 - q2))])) _
        refine X0.ldc2Long hx hown (mvT hZ (hw _ (List.mem_of_getElem? (i := 1) rfl))) (g := (mkF m 31 #[.val (.long q1), .second, .val (.long q2), .second, .val (.long (q1 - q2)), .second, .unset, .unset, .unset, .unset, .unset, .unset] [(.long (q1 - q2))])) rfl (hb hby at_31) _ ?_
        show Steps p.tables e below (s₁.setTop (mkF m 34 #[.val (.long q1), .second, .val (.long q2), .second, .val (.long (q1 - q2)), .second, .unset, .unset, .unset, .unset, .unset, .unset] [(.long (1000000 : Int64)), (.long (q1 - q2))])) _
        refine XS.ldiv X0.here hx rfl (hb hby at_34) rfl (by decide) ?_
        show Steps p.tables e below (s₁.setTop (mkF m 35 #[.val (.long q1), .second, .val (.long q2), .second, .val (.long (q1 - q2)), .second, .unset, .unset, .unset, .unset, .unset, .unset] [(.long ((q1 - q2) / (1000000 : Int64)))])) _
        refine XS.lstore X0.here hx rfl (hb hby at_35) rfl (l' := #[.val (.long q1), .second, .val (.long q2), .second, .val (.long (q1 - q2)), .second, .unset, .unset, .val (.long ((q1 - q2) / (1000000 : Int64))), .second, .unset, .unset]) rfl ?_
        show Steps p.tables e below (s₁.setTop (mkF m 37 #[.val (.long q1), .second, .val (.long q2), .second, .val (.long (q1 - q2)), .second, .unset, .unset, .val (.long ((q1 - q2) / (1000000 : Int64))), .second, .unset, .unset] [])) _
        refine XS.lload X0.here hx rfl (hb hby at_37) rfl ?_
        show Steps p.tables e below (s₁.setTop (mkF m 39 #[.val (.long q1), .second, .val (.long q2), .second, .val (.long (q1 - q2)), .second, .unset, .unset, .val (.long ((q1 - q2) / (1000000 : Int64))), .second, .unset, .unset] [(.long (q1 - q2))])) _
        refine X0.ldc2Long hx hown (mvT hZ (hw _ (List.mem_of_getElem? (i := 1) rfl))) (g := (mkF m 39 #[.val (.long q1), .second, .val (.long q2), .second, .val (.long (q1 - q2)), .second, .unset, .unset, .val (.long ((q1 - q2) / (1000000 : Int64))), .second, .unset, .unset] [(.long (q1 - q2))])) rfl (hb hby at_39) _ ?_
        show Steps p.tables e below (s₁.setTop (mkF m 42 #[.val (.long q1), .second, .val (.long q2), .second, .val (.long (q1 - q2)), .second, .unset, .unset, .val (.long ((q1 - q2) / (1000000 : Int64))), .second, .unset, .unset] [(.long (1000000 : Int64)), (.long (q1 - q2))])) _
        refine own_lremM X0 hx rfl (hb hby at_42) rfl (by decide) ?_
        show Steps p.tables e below (s₁.setTop (mkF m 43 #[.val (.long q1), .second, .val (.long q2), .second, .val (.long (q1 - q2)), .second, .unset, .unset, .val (.long ((q1 - q2) / (1000000 : Int64))), .second, .unset, .unset] [(.long ((q1 - q2) % (1000000 : Int64)))])) _
        refine XS.lstore X0.here hx rfl (hb hby at_43) rfl (l' := #[.val (.long q1), .second, .val (.long q2), .second, .val (.long (q1 - q2)), .second, .unset, .unset, .val (.long ((q1 - q2) / (1000000 : Int64))), .second, .val (.long ((q1 - q2) % (1000000 : Int64))), .second]) rfl ?_
        show Steps p.tables e below (s₁.setTop (mkF m 45 #[.val (.long q1), .second, .val (.long q2), .second, .val (.long (q1 - q2)), .second, .unset, .unset, .val (.long ((q1 - q2) / (1000000 : Int64))), .second, .val (.long ((q1 - q2) % (1000000 : Int64))), .second] [])) _
        refine XS.lload X0.here hx rfl (hb hby at_45) rfl ?_
        show Steps p.tables e below (s₁.setTop (mkF m 47 #[.val (.long q1), .second, .val (.long q2), .second, .val (.long (q1 - q2)), .second, .unset, .unset, .val (.long ((q1 - q2) / (1000000 : Int64))), .second, .val (.long ((q1 - q2) % (1000000 : Int64))), .second] [(.long ((q1 - q2) % (1000000 : Int64)))])) _
        refine XS.lconst X0.here hx rfl (hb hby at_47) ?_
        show Steps p.tables e below (s₁.setTop (mkF m 48 #[.val (.long q1), .second, .val (.long q2), .second, .val (.long (q1 - q2)), .second, .unset, .unset, .val (.long ((q1 - q2) / (1000000 : Int64))), .second, .val (.long ((q1 - q2) % (1000000 : Int64))), .second] [(.long (0 : Int64)), (.long ((q1 - q2) % (1000000 : Int64)))])) _
        refine XS.lcmp X0.here hx rfl (hb hby at_48) rfl ?_
        show Steps p.tables e below (s₁.setTop (mkF m 49 #[.val (.long q1), .second, .val (.long q2), .second, .val (.long (q1 - q2)), .second, .unset, .unset, .val (.long ((q1 - q2) / (1000000 : Int64))), .second, .val (.long ((q1 - q2) % (1000000 : Int64))), .second] [(.int (lcmpW ((q1 - q2) % (1000000 : Int64)) (0 : Int64)))])) _
        exact k
      by_cases hc6 : ((q1 - q2) % (1000000 : Int64)) = (0 : Int64)
      · have K7 : ∀ t, Steps p.tables e below (s₁.setTop (mkF m 65 #[.val (.long q1), .second, .val (.long q2), .second, .val (.long (q1 - q2)), .second, .val (.long ((q1 - q2) / (1000000 : Int64))), .second, .val (.long ((q1 - q2) / (1000000 : Int64))), .second, .val (.long ((q1 - q2) % (1000000 : Int64))), .second] [(.long q2), (.long q1)])) t → Steps p.tables e below G t := by
          intro t k
          refine K5 t ?_
          show Steps p.tables e below (s₁.setTop (mkF m 49 #[.val (.long q1), .second, .val (.long q2), .second, .val (.long (q1 - q2)), .second, .unset, .unset, .val (.long ((q1 - q2) / (1000000 : Int64))), .second, .val (.long ((q1 - q2) % (1000000 : Int64))), .second] [(.int (lcmpW ((q1 - q2) % (1000000 : Int64)) (0 : Int64)))])) _
          refine XS.ifNo X0.here hx rfl (hb hby at_49) rfl ((if0 _ _).trans (teq ((lw_eq ((q1 - q2) % (1000000 : Int64)) (0 : Int64)).mpr hc6)).2) ?_
          show Steps p.tables e below (s₁.setTop (mkF m 52 #[.val (.long q1), .second, .val (.long q2), .second, .val (.long (q1 - q2)), .second, .unset, .unset, .val (.long ((q1 - q2) / (1000000 : Int64))), .second, .val (.long ((q1 - q2) % (1000000 : Int64))), .second] [])) _
          refine XS.lload X0.here hx rfl (hb hby at_52) rfl ?_
          show Steps p.tables e below (s₁.setTop (mkF m 54 #[.val (.long q1), .second, .val (.long q2), .second, .val (.long (q1 - q2)), .second, .unset, .unset, .val (.long ((q1 - q2) / (1000000 : Int64))), .second, .val (.long ((q1 - q2) % (1000000 : Int64))), .second] [(.long ((q1 - q2) / (1000000 : Int64)))])) _
          refine XS.goto X0.here hx rfl (pc0 := 54) (pc' := 61) rfl (hb hby at_54) (by decide) (by decide) ?_
          show Steps p.tables e below (s₁.setTop (mkF m 61 #[.val (.long q1), .second, .val (.long q2), .second, .val (.long (q1 - q2)), .second, .unset, .unset, .val (.long ((q1 - q2) / (1000000 : Int64))), .second, .val (.long ((q1 - q2) % (1000000 : Int64))), .second] [(.long ((q1 - q2) / (1000000 : Int64)))])) _
          refine XS.lstore X0.here hx rfl (hb hby at_61) rfl (l' := #[.val (.long q1), .second, .val (.long q2), .second, .val (.long (q1 - q2)), .second, .val (.long ((q1 - q2) / (1000000 : Int64))), .second, .val (.long ((q1 - q2) / (1000000 : Int64))), .second, .val (.long ((q1 - q2) % (1000000 : Int64))), .second]) rfl ?_
          show Steps p.tables e below (s₁.setTop (mkF m 63 #[.val (.long q1), .second, .val (.long q2), .second, .val (.long (q1 - q2)), .second, .val (.long ((q1 - q2) / (1000000 : Int64))), .second, .val (.long ((q1 - q2) / (1000000 : Int64))), .second, .val (.long ((q1 - q2) % (1000000 : Int64))), .second] [])) _
          refine XS.lloadN X0.here hx rfl (hb hby at_63) rfl ?_
          show Steps p.tables e below (s₁.setTop (mkF m 64 #[.val (.long q1), .second, .val (.long q2), .second, .val (.long (q1 - q2)), .second, .val (.long ((q1 - q2) / (1000000 : Int64))), .second, .val (.long ((q1 - q2) / (1000000 : Int64))), .second, .val (.long ((q1 - q2) % (1000000 : Int64))), .second] [(.long q1)])) _
          refine XS.lloadN X0.here hx rfl (hb hby at_64) rfl ?_
          show Steps p.tables e below (s₁.setTop (mkF m 65 #[.val (.long q1), .second, .val (.long q2), .second, .val (.long (q1 - q2)), .second, .val (.long ((q1 - q2) / (1000000 : Int64))), .second, .val (.long ((q1 - q2) / (1000000 : Int64))), .second, .val (.long ((q1 - q2) % (1000000 : Int64))), .second] [(.long q2), (.long q1)])) _
          exact k
        obtain ⟨_, _, ⟨T8, L8, k8, n8⟩, -, X8, ⟨Lc8, hQ8, l8, y8, z8⟩, st8⟩ := Jvm.LawKit.callS X0 hx (y := (⟨"com/example/turnwire/turnwire/Game", "millisUntil", "(JJ)J"⟩ : MethodName)) hown (mvT hZ (hw _ (List.mem_of_getElem? (i := 2) rfl))) (mvT hZ (hw _ (List.mem_of_getElem? (i := 3) rfl))) (mvT hZ (hw _ (List.mem_of_getElem? (i := 4) rfl))) (mvT hZ (hw _ (List.mem_of_getElem? (i := 5) rfl))) (by decide) (backOf (W := 0) (rm1 l Z a0 hw [] q1 q2 h0 n0 Z0 S0) hZ (hw _ (List.mem_of_getElem? (i := 5) rfl)) (hw _ (List.mem_of_getElem? (i := 4) rfl)) (by decide) (by decide)) (g := (mkF m 65 #[.val (.long q1), .second, .val (.long q2), .second, .val (.long (q1 - q2)), .second, .val (.long ((q1 - q2) / (1000000 : Int64))), .second, .val (.long ((q1 - q2) / (1000000 : Int64))), .second, .val (.long ((q1 - q2) % (1000000 : Int64))), .second] [(.long q2), (.long q1)])) rfl (by rw [hml]; rfl) (argsL := [(.long q1), (.long q2)]) (rest := []) (lenOf pd_0 rfl) rfl (by show 2 * 0 + _ ≤ _; exact Nat.le_of_eq rfl) (hb hby at_65) (fun _ _ => ⟨rfl, e0, (by decide : 0 + 0 ≤ _), (by decide : 0 + 0 ≤ _)⟩)
        dsimp only [Pt.U, Pt.locs, Pt.cells, Pt.slots] at X8 l8 y8 z8 st8 hQ8
        subst l8 y8 z8
        obtain ⟨rfl, Nq8, e8⟩ := hQ8
        have N9 := Fr.app N0 Nq8
        have K10 : ∀ t, Steps p.tables e below (T8.setTop (mkF m 68 #[.val (.long q1), .second, .val (.long q2), .second, .val (.long (q1 - q2)), .second, .val (.long ((q1 - q2) / (1000000 : Int64))), .second, .val (.long ((q1 - q2) / (1000000 : Int64))), .second, .val (.long ((q1 - q2) % (1000000 : Int64))), .second] [(.long (own_ms q1 q2))])) t → Steps p.tables e below G t := fun t k => K7 t (st8 _ k)
        obtain ⟨fs, hr, hrun, hended, hW, hsame⟩ := X8.leave (v := some (.int (1 : Int32))) (fun h => by rw [Bd.returns] at h; cases h)
        have KF := K10
        rw [hG] at KF
        refine ⟨_, _, KF _ ?_, hrun, hended, _, _, rfl, ?_, ⟨_, rfl⟩, hW, hsame.mono (by decide) (by decide)⟩
        · show Steps p.tables e below (T8.setTop (mkF m 68 #[.val (.long q1), .second, .val (.long q2), .second, .val (.long (q1 - q2)), .second, .val (.long ((q1 - q2) / (1000000 : Int64))), .second, .val (.long ((q1 - q2) / (1000000 : Int64))), .second, .val (.long ((q1 - q2) % (1000000 : Int64))), .second] [(.long (own_ms q1 q2))])) _
          refine XS.lload X8.here hx rfl (hb hby at_68) rfl ?_
          show Steps p.tables e below (T8.setTop (mkF m 70 #[.val (.long q1), .second, .val (.long q2), .second, .val (.long (q1 - q2)), .second, .val (.long ((q1 - q2) / (1000000 : Int64))), .second, .val (.long ((q1 - q2) / (1000000 : Int64))), .second, .val (.long ((q1 - q2) % (1000000 : Int64))), .second] [(.long ((q1 - q2) / (1000000 : Int64))), (.long (own_ms q1 q2))])) _
          refine XS.lcmp X8.here hx rfl (hb hby at_70) rfl ?_
          show Steps p.tables e below (T8.setTop (mkF m 71 #[.val (.long q1), .second, .val (.long q2), .second, .val (.long (q1 - q2)), .second, .val (.long ((q1 - q2) / (1000000 : Int64))), .second, .val (.long ((q1 - q2) / (1000000 : Int64))), .second, .val (.long ((q1 - q2) % (1000000 : Int64))), .second] [(.int (lcmpW (own_ms q1 q2) ((q1 - q2) / (1000000 : Int64))))])) _
          refine XS.ifNo X8.here hx rfl (hb hby at_71) rfl ((if0 _ _).trans (teq ((lw_eq (own_ms q1 q2) ((q1 - q2) / (1000000 : Int64))).mpr (own_b _ _ hc2 hc4 hc6))).2) ?_
          show Steps p.tables e below (T8.setTop (mkF m 74 #[.val (.long q1), .second, .val (.long q2), .second, .val (.long (q1 - q2)), .second, .val (.long ((q1 - q2) / (1000000 : Int64))), .second, .val (.long ((q1 - q2) / (1000000 : Int64))), .second, .val (.long ((q1 - q2) % (1000000 : Int64))), .second] [])) _
          refine XS.iconst X8.here hx rfl (hb hby at_74) ?_
          show Steps p.tables e below (T8.setTop (mkF m 75 #[.val (.long q1), .second, .val (.long q2), .second, .val (.long (q1 - q2)), .second, .val (.long ((q1 - q2) / (1000000 : Int64))), .second, .val (.long ((q1 - q2) / (1000000 : Int64))), .second, .val (.long ((q1 - q2) % (1000000 : Int64))), .second] [(.int (1 : Int32))])) _
          refine XS.goto X8.here hx rfl (pc0 := 75) (pc' := 79) rfl (hb hby at_75) (by decide) (by decide) ?_
          show Steps p.tables e below (T8.setTop (mkF m 79 #[.val (.long q1), .second, .val (.long q2), .second, .val (.long (q1 - q2)), .second, .val (.long ((q1 - q2) / (1000000 : Int64))), .second, .val (.long ((q1 - q2) / (1000000 : Int64))), .second, .val (.long ((q1 - q2) % (1000000 : Int64))), .second] [(.int (1 : Int32))])) _
          exact retN X8 hx (t := .boolean) Bd.returns (by simp) (hb hby at_79) hr
        · show Q0 n0 _ T8.heap _
          rw [e8]
          exact ⟨rfl, N9⟩
      · have K11 : ∀ t, Steps p.tables e below (s₁.setTop (mkF m 65 #[.val (.long q1), .second, .val (.long q2), .second, .val (.long (q1 - q2)), .second, .val (.long (((q1 - q2) / (1000000 : Int64)) + (1 : Int64))), .second, .val (.long ((q1 - q2) / (1000000 : Int64))), .second, .val (.long ((q1 - q2) % (1000000 : Int64))), .second] [(.long q2), (.long q1)])) t → Steps p.tables e below G t := by
          intro t k
          refine K5 t ?_
          show Steps p.tables e below (s₁.setTop (mkF m 49 #[.val (.long q1), .second, .val (.long q2), .second, .val (.long (q1 - q2)), .second, .unset, .unset, .val (.long ((q1 - q2) / (1000000 : Int64))), .second, .val (.long ((q1 - q2) % (1000000 : Int64))), .second] [(.int (lcmpW ((q1 - q2) % (1000000 : Int64)) (0 : Int64)))])) _
          refine XS.ifYes X0.here hx rfl (pc0 := 49) (pc' := 57) rfl (hb hby at_49) rfl ((if0 _ _).trans (feq (fun q => hc6 ((lw_eq ((q1 - q2) % (1000000 : Int64)) (0 : Int64)).mp q))).2) (by decide) (by decide) ?_
          show Steps p.tables e below (s₁.setTop (mkF m 57 #[.val (.long q1), .second, .val (.long q2), .second, .val (.long (q1 - q2)), .second, .unset, .unset, .val (.long ((q1 - q2) / (1000000 : Int64))), .second, .val (.long ((q1 - q2) % (1000000 : Int64))), .second] [])) _
          refine XS.lload X0.here hx rfl (hb hby at_57) rfl ?_
          show Steps p.tables e below (s₁.setTop (mkF m 59 #[.val (.long q1), .second, .val (.long q2), .second, .val (.long (q1 - q2)), .second, .unset, .unset, .val (.long ((q1 - q2) / (1000000 : Int64))), .second, .val (.long ((q1 - q2) % (1000000 : Int64))), .second] [(.long ((q1 - q2) / (1000000 : Int64)))])) _
          refine XS.lconst X0.here hx rfl (hb hby at_59) ?_
          show Steps p.tables e below (s₁.setTop (mkF m 60 #[.val (.long q1), .second, .val (.long q2), .second, .val (.long (q1 - q2)), .second, .unset, .unset, .val (.long ((q1 - q2) / (1000000 : Int64))), .second, .val (.long ((q1 - q2) % (1000000 : Int64))), .second] [(.long (1 : Int64)), (.long ((q1 - q2) / (1000000 : Int64)))])) _
          refine XS.ladd X0.here hx rfl (hb hby at_60) rfl ?_
          show Steps p.tables e below (s₁.setTop (mkF m 61 #[.val (.long q1), .second, .val (.long q2), .second, .val (.long (q1 - q2)), .second, .unset, .unset, .val (.long ((q1 - q2) / (1000000 : Int64))), .second, .val (.long ((q1 - q2) % (1000000 : Int64))), .second] [(.long (((q1 - q2) / (1000000 : Int64)) + (1 : Int64)))])) _
          refine XS.lstore X0.here hx rfl (hb hby at_61) rfl (l' := #[.val (.long q1), .second, .val (.long q2), .second, .val (.long (q1 - q2)), .second, .val (.long (((q1 - q2) / (1000000 : Int64)) + (1 : Int64))), .second, .val (.long ((q1 - q2) / (1000000 : Int64))), .second, .val (.long ((q1 - q2) % (1000000 : Int64))), .second]) rfl ?_
          show Steps p.tables e below (s₁.setTop (mkF m 63 #[.val (.long q1), .second, .val (.long q2), .second, .val (.long (q1 - q2)), .second, .val (.long (((q1 - q2) / (1000000 : Int64)) + (1 : Int64))), .second, .val (.long ((q1 - q2) / (1000000 : Int64))), .second, .val (.long ((q1 - q2) % (1000000 : Int64))), .second] [])) _
          refine XS.lloadN X0.here hx rfl (hb hby at_63) rfl ?_
          show Steps p.tables e below (s₁.setTop (mkF m 64 #[.val (.long q1), .second, .val (.long q2), .second, .val (.long (q1 - q2)), .second, .val (.long (((q1 - q2) / (1000000 : Int64)) + (1 : Int64))), .second, .val (.long ((q1 - q2) / (1000000 : Int64))), .second, .val (.long ((q1 - q2) % (1000000 : Int64))), .second] [(.long q1)])) _
          refine XS.lloadN X0.here hx rfl (hb hby at_64) rfl ?_
          show Steps p.tables e below (s₁.setTop (mkF m 65 #[.val (.long q1), .second, .val (.long q2), .second, .val (.long (q1 - q2)), .second, .val (.long (((q1 - q2) / (1000000 : Int64)) + (1 : Int64))), .second, .val (.long ((q1 - q2) / (1000000 : Int64))), .second, .val (.long ((q1 - q2) % (1000000 : Int64))), .second] [(.long q2), (.long q1)])) _
          exact k
        obtain ⟨_, _, ⟨T12, L12, k12, n12⟩, -, X12, ⟨Lc12, hQ12, l12, y12, z12⟩, st12⟩ := Jvm.LawKit.callS X0 hx (y := (⟨"com/example/turnwire/turnwire/Game", "millisUntil", "(JJ)J"⟩ : MethodName)) hown (mvT hZ (hw _ (List.mem_of_getElem? (i := 2) rfl))) (mvT hZ (hw _ (List.mem_of_getElem? (i := 3) rfl))) (mvT hZ (hw _ (List.mem_of_getElem? (i := 4) rfl))) (mvT hZ (hw _ (List.mem_of_getElem? (i := 5) rfl))) (by decide) (backOf (W := 0) (rm1 l Z a0 hw [] q1 q2 h0 n0 Z0 S0) hZ (hw _ (List.mem_of_getElem? (i := 5) rfl)) (hw _ (List.mem_of_getElem? (i := 4) rfl)) (by decide) (by decide)) (g := (mkF m 65 #[.val (.long q1), .second, .val (.long q2), .second, .val (.long (q1 - q2)), .second, .val (.long (((q1 - q2) / (1000000 : Int64)) + (1 : Int64))), .second, .val (.long ((q1 - q2) / (1000000 : Int64))), .second, .val (.long ((q1 - q2) % (1000000 : Int64))), .second] [(.long q2), (.long q1)])) rfl (by rw [hml]; rfl) (argsL := [(.long q1), (.long q2)]) (rest := []) (lenOf pd_0 rfl) rfl (by show 2 * 0 + _ ≤ _; exact Nat.le_of_eq rfl) (hb hby at_65) (fun _ _ => ⟨rfl, e0, (by decide : 0 + 0 ≤ _), (by decide : 0 + 0 ≤ _)⟩)
        dsimp only [Pt.U, Pt.locs, Pt.cells, Pt.slots] at X12 l12 y12 z12 st12 hQ12
        subst l12 y12 z12
        obtain ⟨rfl, Nq12, e12⟩ := hQ12
        have N13 := Fr.app N0 Nq12
        have K14 : ∀ t, Steps p.tables e below (T12.setTop (mkF m 68 #[.val (.long q1), .second, .val (.long q2), .second, .val (.long (q1 - q2)), .second, .val (.long (((q1 - q2) / (1000000 : Int64)) + (1 : Int64))), .second, .val (.long ((q1 - q2) / (1000000 : Int64))), .second, .val (.long ((q1 - q2) % (1000000 : Int64))), .second] [(.long (own_ms q1 q2))])) t → Steps p.tables e below G t := fun t k => K11 t (st12 _ k)
        obtain ⟨fs, hr, hrun, hended, hW, hsame⟩ := X12.leave (v := some (.int (1 : Int32))) (fun h => by rw [Bd.returns] at h; cases h)
        have KF := K14
        rw [hG] at KF
        refine ⟨_, _, KF _ ?_, hrun, hended, _, _, rfl, ?_, ⟨_, rfl⟩, hW, hsame.mono (by decide) (by decide)⟩
        · show Steps p.tables e below (T12.setTop (mkF m 68 #[.val (.long q1), .second, .val (.long q2), .second, .val (.long (q1 - q2)), .second, .val (.long (((q1 - q2) / (1000000 : Int64)) + (1 : Int64))), .second, .val (.long ((q1 - q2) / (1000000 : Int64))), .second, .val (.long ((q1 - q2) % (1000000 : Int64))), .second] [(.long (own_ms q1 q2))])) _
          refine XS.lload X12.here hx rfl (hb hby at_68) rfl ?_
          show Steps p.tables e below (T12.setTop (mkF m 70 #[.val (.long q1), .second, .val (.long q2), .second, .val (.long (q1 - q2)), .second, .val (.long (((q1 - q2) / (1000000 : Int64)) + (1 : Int64))), .second, .val (.long ((q1 - q2) / (1000000 : Int64))), .second, .val (.long ((q1 - q2) % (1000000 : Int64))), .second] [(.long (((q1 - q2) / (1000000 : Int64)) + (1 : Int64))), (.long (own_ms q1 q2))])) _
          refine XS.lcmp X12.here hx rfl (hb hby at_70) rfl ?_
          show Steps p.tables e below (T12.setTop (mkF m 71 #[.val (.long q1), .second, .val (.long q2), .second, .val (.long (q1 - q2)), .second, .val (.long (((q1 - q2) / (1000000 : Int64)) + (1 : Int64))), .second, .val (.long ((q1 - q2) / (1000000 : Int64))), .second, .val (.long ((q1 - q2) % (1000000 : Int64))), .second] [(.int (lcmpW (own_ms q1 q2) (((q1 - q2) / (1000000 : Int64)) + (1 : Int64))))])) _
          refine XS.ifNo X12.here hx rfl (hb hby at_71) rfl ((if0 _ _).trans (teq ((lw_eq (own_ms q1 q2) (((q1 - q2) / (1000000 : Int64)) + (1 : Int64))).mpr (own_c _ _ hc2 hc4 hc6))).2) ?_
          show Steps p.tables e below (T12.setTop (mkF m 74 #[.val (.long q1), .second, .val (.long q2), .second, .val (.long (q1 - q2)), .second, .val (.long (((q1 - q2) / (1000000 : Int64)) + (1 : Int64))), .second, .val (.long ((q1 - q2) / (1000000 : Int64))), .second, .val (.long ((q1 - q2) % (1000000 : Int64))), .second] [])) _
          refine XS.iconst X12.here hx rfl (hb hby at_74) ?_
          show Steps p.tables e below (T12.setTop (mkF m 75 #[.val (.long q1), .second, .val (.long q2), .second, .val (.long (q1 - q2)), .second, .val (.long (((q1 - q2) / (1000000 : Int64)) + (1 : Int64))), .second, .val (.long ((q1 - q2) / (1000000 : Int64))), .second, .val (.long ((q1 - q2) % (1000000 : Int64))), .second] [(.int (1 : Int32))])) _
          refine XS.goto X12.here hx rfl (pc0 := 75) (pc' := 79) rfl (hb hby at_75) (by decide) (by decide) ?_
          show Steps p.tables e below (T12.setTop (mkF m 79 #[.val (.long q1), .second, .val (.long q2), .second, .val (.long (q1 - q2)), .second, .val (.long (((q1 - q2) / (1000000 : Int64)) + (1 : Int64))), .second, .val (.long ((q1 - q2) / (1000000 : Int64))), .second, .val (.long ((q1 - q2) % (1000000 : Int64))), .second] [(.int (1 : Int32))])) _
          exact retN X12 hx (t := .boolean) Bd.returns (by simp) (hb hby at_79) hr
        · show Q0 n0 _ T12.heap _
          rw [e12]
          exact ⟨rfl, N13⟩
    · have K15 : ∀ t, Steps p.tables e below (s₁.setTop (mkF m 65 #[.val (.long q1), .second, .val (.long q2), .second, .val (.long (q1 - q2)), .second, .val (.long (0 : Int64)), .second, .unset, .unset, .unset, .unset] [(.long q2), (.long q1)])) t → Steps p.tables e below G t := by
        intro t k
        refine K3 t ?_
        show Steps p.tables e below (s₁.setTop (mkF m 20 #[.val (.long q1), .second, .val (.long q2), .second, .val (.long (q1 - q2)), .second, .unset, .unset, .unset, .unset, .unset, .unset] [(.int (lcmpW (q1 - q2) (0 : Int64)))])) _
        refine XS.ifNo X0.here hx rfl (hb hby at_20) rfl ((if0 _ _).trans (flt (fun q => hc4 ((lw_gt (q1 - q2) (0 : Int64)).mp q))).2.2.1) ?_
        show Steps p.tables e below (s₁.setTop (mkF m 23 #[.val (.long q1), .second, .val (.long q2), .second, .val (.long (q1 - q2)), .second, .unset, .unset, .unset, .unset, .unset, .unset] [])) _
        refine XS.lconst X0.here hx rfl (hb hby at_23) ?_
        show Steps p.tables e below (s₁.setTop (mkF m 24 #[.val (.long q1), .second, .val (.long q2), .second, .val (.long (q1 - q2)), .second, .unset, .unset, .unset, .unset, .unset, .unset] [(.long (0 : Int64))])) _
        refine XS.lstore X0.here hx rfl (hb hby at_24) rfl (l' := #[.val (.long q1), .second, .val (.long q2), .second, .val (.long (q1 - q2)), .second, .val (.long (0 : Int64)), .second, .unset, .unset, .unset, .unset]) rfl ?_
        show Steps p.tables e below (s₁.setTop (mkF m 26 #[.val (.long q1), .second, .val (.long q2), .second, .val (.long (q1 - q2)), .second, .val (.long (0 : Int64)), .second, .unset, .unset, .unset, .unset] [])) _
        refine XS.goto X0.here hx rfl (pc0 := 26) (pc' := 63) rfl (hb hby at_26) (by decide) (by decide) ?_
        show Steps p.tables e below (s₁.setTop (mkF m 63 #[.val (.long q1), .second, .val (.long q2), .second, .val (.long (q1 - q2)), .second, .val (.long (0 : Int64)), .second, .unset, .unset, .unset, .unset] [])) _
        refine XS.lloadN X0.here hx rfl (hb hby at_63) rfl ?_
        show Steps p.tables e below (s₁.setTop (mkF m 64 #[.val (.long q1), .second, .val (.long q2), .second, .val (.long (q1 - q2)), .second, .val (.long (0 : Int64)), .second, .unset, .unset, .unset, .unset] [(.long q1)])) _
        refine XS.lloadN X0.here hx rfl (hb hby at_64) rfl ?_
        show Steps p.tables e below (s₁.setTop (mkF m 65 #[.val (.long q1), .second, .val (.long q2), .second, .val (.long (q1 - q2)), .second, .val (.long (0 : Int64)), .second, .unset, .unset, .unset, .unset] [(.long q2), (.long q1)])) _
        exact k
      obtain ⟨_, _, ⟨T16, L16, k16, n16⟩, -, X16, ⟨Lc16, hQ16, l16, y16, z16⟩, st16⟩ := Jvm.LawKit.callS X0 hx (y := (⟨"com/example/turnwire/turnwire/Game", "millisUntil", "(JJ)J"⟩ : MethodName)) hown (mvT hZ (hw _ (List.mem_of_getElem? (i := 2) rfl))) (mvT hZ (hw _ (List.mem_of_getElem? (i := 3) rfl))) (mvT hZ (hw _ (List.mem_of_getElem? (i := 4) rfl))) (mvT hZ (hw _ (List.mem_of_getElem? (i := 5) rfl))) (by decide) (backOf (W := 0) (rm1 l Z a0 hw [] q1 q2 h0 n0 Z0 S0) hZ (hw _ (List.mem_of_getElem? (i := 5) rfl)) (hw _ (List.mem_of_getElem? (i := 4) rfl)) (by decide) (by decide)) (g := (mkF m 65 #[.val (.long q1), .second, .val (.long q2), .second, .val (.long (q1 - q2)), .second, .val (.long (0 : Int64)), .second, .unset, .unset, .unset, .unset] [(.long q2), (.long q1)])) rfl (by rw [hml]; rfl) (argsL := [(.long q1), (.long q2)]) (rest := []) (lenOf pd_0 rfl) rfl (by show 2 * 0 + _ ≤ _; exact Nat.le_of_eq rfl) (hb hby at_65) (fun _ _ => ⟨rfl, e0, (by decide : 0 + 0 ≤ _), (by decide : 0 + 0 ≤ _)⟩)
      dsimp only [Pt.U, Pt.locs, Pt.cells, Pt.slots] at X16 l16 y16 z16 st16 hQ16
      subst l16 y16 z16
      obtain ⟨rfl, Nq16, e16⟩ := hQ16
      have N17 := Fr.app N0 Nq16
      have K18 : ∀ t, Steps p.tables e below (T16.setTop (mkF m 68 #[.val (.long q1), .second, .val (.long q2), .second, .val (.long (q1 - q2)), .second, .val (.long (0 : Int64)), .second, .unset, .unset, .unset, .unset] [(.long (own_ms q1 q2))])) t → Steps p.tables e below G t := fun t k => K15 t (st16 _ k)
      obtain ⟨fs, hr, hrun, hended, hW, hsame⟩ := X16.leave (v := some (.int (1 : Int32))) (fun h => by rw [Bd.returns] at h; cases h)
      have KF := K18
      rw [hG] at KF
      refine ⟨_, _, KF _ ?_, hrun, hended, _, _, rfl, ?_, ⟨_, rfl⟩, hW, hsame.mono (by decide) (by decide)⟩
      · show Steps p.tables e below (T16.setTop (mkF m 68 #[.val (.long q1), .second, .val (.long q2), .second, .val (.long (q1 - q2)), .second, .val (.long (0 : Int64)), .second, .unset, .unset, .unset, .unset] [(.long (own_ms q1 q2))])) _
        refine XS.lload X16.here hx rfl (hb hby at_68) rfl ?_
        show Steps p.tables e below (T16.setTop (mkF m 70 #[.val (.long q1), .second, .val (.long q2), .second, .val (.long (q1 - q2)), .second, .val (.long (0 : Int64)), .second, .unset, .unset, .unset, .unset] [(.long (0 : Int64)), (.long (own_ms q1 q2))])) _
        refine XS.lcmp X16.here hx rfl (hb hby at_70) rfl ?_
        show Steps p.tables e below (T16.setTop (mkF m 71 #[.val (.long q1), .second, .val (.long q2), .second, .val (.long (q1 - q2)), .second, .val (.long (0 : Int64)), .second, .unset, .unset, .unset, .unset] [(.int (lcmpW (own_ms q1 q2) (0 : Int64)))])) _
        refine XS.ifNo X16.here hx rfl (hb hby at_71) rfl ((if0 _ _).trans (teq ((lw_eq (own_ms q1 q2) (0 : Int64)).mpr (own_a _ _ hc4))).2) ?_
        show Steps p.tables e below (T16.setTop (mkF m 74 #[.val (.long q1), .second, .val (.long q2), .second, .val (.long (q1 - q2)), .second, .val (.long (0 : Int64)), .second, .unset, .unset, .unset, .unset] [])) _
        refine XS.iconst X16.here hx rfl (hb hby at_74) ?_
        show Steps p.tables e below (T16.setTop (mkF m 75 #[.val (.long q1), .second, .val (.long q2), .second, .val (.long (q1 - q2)), .second, .val (.long (0 : Int64)), .second, .unset, .unset, .unset, .unset] [(.int (1 : Int32))])) _
        refine XS.goto X16.here hx rfl (pc0 := 75) (pc' := 79) rfl (hb hby at_75) (by decide) (by decide) ?_
        show Steps p.tables e below (T16.setTop (mkF m 79 #[.val (.long q1), .second, .val (.long q2), .second, .val (.long (q1 - q2)), .second, .val (.long (0 : Int64)), .second, .unset, .unset, .unset, .unset] [(.int (1 : Int32))])) _
        exact retN X16 hx (t := .boolean) Bd.returns (by simp) (hb hby at_79) hr
      · show Q0 n0 _ T16.heap _
        rw [e16]
        exact ⟨rfl, N17⟩
set_option maxRecDepth 65536 in
set_option maxHeartbeats 40000000 in
theorem comes_1 {Post : Tables → Env → Array Value → State → Outcome → State → Prop} (hpost : ∀ tb e args s v u, (limb_1_1.after args s (.returned v) u = true ∧ limb_1_2.after args s (.returned v) u = true ∧ True) → FrameEnd s (.returned v) u (Jvm.fieldLocs frame_1_writes args s ++ Jvm.arrayLocs frame_1_arrays args s ++ Jvm.staticLocs frame_1_statics s) 0 0 → Post tb e args s (.returned v) u) :
    ArmFor flags0 classFile x code maxLocals ret World_1 tables_1 room_1 Calls_1 rest_1 Pre_1 Post := by
  intro l hfl _ _ p e ha hc hk s m args below hf hA hF happ hP
  obtain ⟨hcalls, hrest, hpre⟩ := hP
  obtain ⟨-, -, -, hnamed, -, -, -, hat⟩ := (Spec.applies_iff hf).mp happ
  obtain ⟨hg, hn⟩ := and_e (Cond.before_iff.mp (show (Jvm.Cond.and given_1 narrow_1).before args s = true from hpre))
  obtain ⟨gc, gr0⟩ := and_e hg
  obtain ⟨ga0, gr1⟩ := and_e gr0
  have ga1 := gr1
  obtain ⟨w0, w1, rfl⟩ : ∃ w0 w1 : Value, args = #[w0, w1] := by
    have hs : args.size = 2 := by simpa [Cond.value, given_1] using gc
    obtain ⟨L⟩ := args
    match L, hs with
    | [w0, w1], _ => exact ⟨w0, w1, rfl⟩
  have hw := fun d (hd : d ∈ tables_1) => atoms_spec (ws := Jvm.Cond.code x code maxLocals ret :: tables_1) hat d (List.mem_cons_of_mem _ hd)
  have hfit : Fit s := fun {y c} hc i hi => by
    obtain ⟨ha, rfl⟩ := Array.getElem?_eq_some_iff.mp hc
    have q := List.all_eq_true.mp ((Array.all_eq_true_iff_forall_mem.mp hF) _ (Array.getElem_mem ha)) i (List.mem_range.mpr hi)
    simpa [Array.getElem?_eq_getElem hi] using q
  obtain ⟨i0, ei0⟩ := isL_v ga0
  obtain rfl : w0 = (.long i0) := Option.some.inj ei0
  obtain ⟨i1, ei1⟩ := isL_v ga1
  obtain rfl : w1 = (.long i1) := Option.some.inj ei1
  have S0 : Sta s s.heap "com/example/turnwire/turnwire/Game" "NANOS_PER_MILLI" "J" (.long (1000000 : Int64)) := Sta.start (args := #[.long i0, .long i1]) (Cond.eq_long (Cond.before_iff.mpr hn) rfl) (Or.inr ⟨(hw _ (List.mem_of_getElem? (i := 4) rfl)), (hw _ (List.mem_of_getElem? (i := 7) rfl))⟩)
  obtain ⟨n, o, h1, h2, h3, _, L, rfl, ⟨rfl, N⟩, hq⟩ := rm0 l s _ hw tables_1 i0 i1  s.heap s.heap.size (Nat.le_refl _) S0 p e ha hc hk s m _ below hf ((Spec.applies_iff_loose hf).mp happ).1 ⟨rfl, State.Warmed39.refl s, rfl⟩ trivial
  refine ⟨n, _, h1, h2, h3, hpost _ _ _ _ _ _ ⟨Cond.after_iff.mpr rfl, Cond.after_iff.mpr (eq_i res_at (Term.int_eval (1)) rfl), trivial⟩ ⟨hq.1, hq.2.1, (hq.2.2.sift fun y hy => Or.inr (N y hy)).mono (by decide) (by decide)⟩⟩
theorem main_1_1 : Claimed_1_1 := comes_1 fun _ _ _ _ _ _ h hF => ⟨h.1, hF⟩
theorem main_1_2 : Claimed_1_2 := comes_1 fun _ _ _ _ _ _ h hF => ⟨h.2.1, hF⟩
end Jvm.Pilot.@@N@@
namespace Jvm.Pilot.@@N@@
open Jvm Jvm.ClassFile Sem Op Lib Jvm.Free Jvm.Stand Jvm.Pilot.@@N@@.Jvm.D
/-! MADE BY PROGRAM (witnessworld.py) out of the Statement's table words and the real class files: 9 classes; the members and pool entries that the words name. The judged class is class 1, her method 1. -/
namespace start1
open Jvm.ClassFile
def u (s : String) : CpInfo := .utf8 (stringToUtf16 s)
/-- a pool by its gaps: so many unusable entries, then the entry; so many at the end -/
def gap : Nat → List CpInfo → List CpInfo
  | 0, r => r
  | n + 1, r => .unusable :: gap n r
def poolList (es : List (Nat × CpInfo)) (last : Nat) : List CpInfo := es.foldr (fun e r => gap e.1 (e.2 :: r)) (gap last [])
def pool (es : List (Nat × CpInfo)) (last : Nat) : Array CpInfo := ⟨poolList es last⟩
def fileOf (pool : Array CpInfo) (this : Nat) (attrs : Array Attribute := #[]) (ms : Array MethodInfo := #[]) (fl : Nat := 33) (sup : Nat := 0) (ifs : Array Nat := #[]) (fds : Array FieldInfo := #[]) : ClassFile where
  minorVersion := 0
  majorVersion := 65
  constantPool := pool
  accessFlags := fl
  thisClass := this
  superClass := sup
  interfaces := ifs
  fields := fds
  methods := ms
  attributes := attrs
def plain (name : String) (sup : Option ClassId) : Class where
  name := name
  kind := .ordinary
  loader := none
  accessFlags := 33
  super := sup
  interfaces := #[]
  cf := none
  fields := #[]
  methods := #[]
  instanceTypes := #[]
  staticTypes := #[]
  resolved := #[]
  callSites := []
  init := .initialized
  statics := none
  mirror := none

def pool0 : Array CpInfo := pool [(5, u "<init>"), (0, u "()V"), (1, .class_ 10), (1, u "java/lang/Object")] 113

def k0m0 : Method := { name := "<init>", desc := "()V", sig := { parameters := [], returnType := none }, accessFlags := 1, code := none }
/-- java/lang/Object -/
def k0 : Class := { plain "java/lang/Object" none with
  accessFlags := 33
  interfaces := #[]
  cf := some (fileOf pool0 8 #[] #[{ accessFlags := 1, nameIndex := 5, descriptorIndex := 6, attributes := #[] }] 33 0 #[] #[])
  fields := #[]
  methods := #[k0m0]
  instanceTypes := #[]
  staticTypes := #[]
  resolved := Array.replicate 124 none
  statics := none }

def pool1 : Array CpInfo := pool [(2, .class_ 4), (1, u "java/lang/Object"), (0, u "<init>"), (0, u "()V"), (2, .long 9223372036853775808), (1, .long 1000000), (1, .methodref 14 15), (0, .class_ 16), (0, .nameAndType 17 18), (0, u "com/example/turnwire/turnwire/Game"), (0, u "millisUntil"), (0, u "(JJ)J"), (0, .class_ 20), (0, u "com/example/turnwire/turnwire/GameMillisUntilPinLaw"), (2, u "law"), (0, u "(JJ)Z")] 3

def k1m0 : Method := { name := "<init>", desc := "()V", sig := { parameters := [], returnType := none }, accessFlags := 1, code := none }
def k1c1 : Code := { maxStack := 4, maxLocals := 12, code := code, exceptionTable := #[], attributes := #[] }
def k1m1 : Method := { name := "law", desc := "(JJ)Z", sig := { parameters := [.long, .long], returnType := some .boolean }, accessFlags := 9, code := some k1c1 }
/-- com/example/turnwire/turnwire/GameMillisUntilPinLaw -/
def k1 : Class := { plain "com/example/turnwire/turnwire/GameMillisUntilPinLaw" (some 0) with
  accessFlags := 49
  interfaces := #[]
  cf := some (fileOf pool1 19 #[] #[{ accessFlags := 1, nameIndex := 5, descriptorIndex := 6, attributes := #[] }, { accessFlags := 9, nameIndex := 23, descriptorIndex := 24, attributes := #[] }] 49 2 #[] #[])
  fields := #[]
  methods := #[k1m0, k1m1]
  instanceTypes := #[]
  staticTypes := #[]
  resolved := Array.replicate 28 none
  statics := none }

def pool2 : Array CpInfo := pool [(2, .class_ 4), (1, u "java/lang/Object"), (6, .class_ 13), (1, u "com/example/turnwire/turnwire/Game"), (0, u "seats"), (0, u "Ljava/util/Map;"), (7, u "doTurnsToCome"), (0, u "Ljava/util/List;"), (1, .class_ 28), (1, u "com/example/turnwire/turnwire/Game$Phase"), (1, u "Lcom/example/turnwire/turnwire/Game$Phase;"), (2, u "phase"), (2, u "newestTurn"), (0, u "I"), (2, u "settings"), (0, u "Lcom/example/turnwire/turnwire/Settings;"), (2, u "clock"), (0, u "Ljava/util/function/LongSupplier;"), (2, u "logic"), (0, u "Lcom/example/turnwire/turnwire/Connection;"), (8, u "nbPlayers"), (0, .class_ 60), (0, u "com/example/turnwire/turnwire/Game$Seat"), (2, u "players"), (0, u "[Lcom/example/turnwire/turnwire/Game$Seat;"), (49, u "awaitingWrite"), (0, u "Z"), (2, u "outcome"), (0, u "Lcom/example/turnwire/turnwire/Outcome;"), (2, u "doTurnsSent"), (44, u "playersInfo"), (0, u "[B"), (17, u "delayFrom"), (0, u "J"), (0, .fieldref 11 189), (0, .nameAndType 190 187), (0, u "NANOS_PER_MILLI"), (8, u "millisUntil"), (0, u "(JJ)J"), (103, u "initialState"), (0, u "Ljava/nio/ByteBuffer;"), (1, .class_ 309), (1, u "com/example/turnwire/turnwire/Game$Broadcast"), (26, u "gameEnds"), (3, u "Lcom/example/turnwire/turnwire/Frame;"), (9, u "newestTurnState"), (9, u "newestPlayerTurn"), (93, .class_ 455), (0, u "com/example/turnwire/turnwire/Game$DoTurnToCome"), (50, .class_ 507), (0, u "com/example/turnwire/turnwire/Game$1"), (3, u "SYSTEM_CLOCK")] 63

def k2c0 : Code := { maxStack := 4, maxLocals := 6, code := prog_10_method_10_code, exceptionTable := #[], attributes := #[] }
def k2m0 : Method := { name := "millisUntil", desc := "(JJ)J", sig := { parameters := [.long, .long], returnType := some .long }, accessFlags := 8, code := some k2c0 }
/-- com/example/turnwire/turnwire/Game -/
def k2 : Class := { plain "com/example/turnwire/turnwire/Game" (some 0) with
  accessFlags := 48
  interfaces := #[]
  cf := some (fileOf pool2 11 #[.nestMembers #[454, 59, 307, 26, 506]] #[{ accessFlags := 8, nameIndex := 199, descriptorIndex := 200, attributes := #[] }] 48 2 #[] #[{ accessFlags := 26, nameIndex := 190, descriptorIndex := 187, attributes := #[] }, { accessFlags := 24, nameIndex := 511, descriptorIndex := 45, attributes := #[] }, { accessFlags := 18, nameIndex := 40, descriptorIndex := 41, attributes := #[] }, { accessFlags := 18, nameIndex := 44, descriptorIndex := 45, attributes := #[] }, { accessFlags := 18, nameIndex := 48, descriptorIndex := 49, attributes := #[] }, { accessFlags := 18, nameIndex := 58, descriptorIndex := 37, attributes := #[] }, { accessFlags := 18, nameIndex := 14, descriptorIndex := 15, attributes := #[] }, { accessFlags := 18, nameIndex := 63, descriptorIndex := 64, attributes := #[] }, { accessFlags := 18, nameIndex := 23, descriptorIndex := 24, attributes := #[] }, { accessFlags := 2, nameIndex := 33, descriptorIndex := 30, attributes := #[] }, { accessFlags := 2, nameIndex := 304, descriptorIndex := 305, attributes := #[] }, { accessFlags := 2, nameIndex := 186, descriptorIndex := 187, attributes := #[] }, { accessFlags := 2, nameIndex := 114, descriptorIndex := 115, attributes := #[] }, { accessFlags := 2, nameIndex := 122, descriptorIndex := 37, attributes := #[] }, { accessFlags := 2, nameIndex := 36, descriptorIndex := 37, attributes := #[] }, { accessFlags := 2, nameIndex := 350, descriptorIndex := 305, attributes := #[] }, { accessFlags := 2, nameIndex := 360, descriptorIndex := 340, attributes := #[] }, { accessFlags := 2, nameIndex := 336, descriptorIndex := 340, attributes := #[] }, { accessFlags := 2, nameIndex := 167, descriptorIndex := 168, attributes := #[] }, { accessFlags := 2, nameIndex := 118, descriptorIndex := 119, attributes := #[] }])
  fields := #[{ name := "NANOS_PER_MILLI", type := .long, accessFlags := 26, slot := 0, constantValue := 0 }, { name := "SYSTEM_CLOCK", type := (.object "java/util/function/LongSupplier"), accessFlags := 24, slot := 1, constantValue := 0 }, { name := "settings", type := (.object "com/example/turnwire/turnwire/Settings"), accessFlags := 18, slot := 0, constantValue := 0 }, { name := "clock", type := (.object "java/util/function/LongSupplier"), accessFlags := 18, slot := 1, constantValue := 0 }, { name := "logic", type := (.object "com/example/turnwire/turnwire/Connection"), accessFlags := 18, slot := 2, constantValue := 0 }, { name := "nbPlayers", type := .int, accessFlags := 18, slot := 3, constantValue := 0 }, { name := "seats", type := (.object "java/util/Map"), accessFlags := 18, slot := 4, constantValue := 0 }, { name := "players", type := (.array (.object "com/example/turnwire/turnwire/Game$Seat")), accessFlags := 18, slot := 5, constantValue := 0 }, { name := "doTurnsToCome", type := (.object "java/util/List"), accessFlags := 18, slot := 6, constantValue := 0 }, { name := "phase", type := (.object "com/example/turnwire/turnwire/Game$Phase"), accessFlags := 2, slot := 7, constantValue := 0 }, { name := "initialState", type := (.object "java/nio/ByteBuffer"), accessFlags := 2, slot := 8, constantValue := 0 }, { name := "delayFrom", type := .long, accessFlags := 2, slot := 9, constantValue := 0 }, { name := "awaitingWrite", type := .boolean, accessFlags := 2, slot := 10, constantValue := 0 }, { name := "doTurnsSent", type := .int, accessFlags := 2, slot := 11, constantValue := 0 }, { name := "newestTurn", type := .int, accessFlags := 2, slot := 12, constantValue := 0 }, { name := "newestTurnState", type := (.object "java/nio/ByteBuffer"), accessFlags := 2, slot := 13, constantValue := 0 }, { name := "newestPlayerTurn", type := (.object "com/example/turnwire/turnwire/Frame"), accessFlags := 2, slot := 14, constantValue := 0 }, { name := "gameEnds", type := (.object "com/example/turnwire/turnwire/Frame"), accessFlags := 2, slot := 15, constantValue := 0 }, { name := "playersInfo", type := (.array .byte), accessFlags := 2, slot := 16, constantValue := 0 }, { name := "outcome", type := (.object "com/example/turnwire/turnwire/Outcome"), accessFlags := 2, slot := 17, constantValue := 0 }]
  methods := #[k2m0]
  instanceTypes := #[(.object "com/example/turnwire/turnwire/Settings"), (.object "java/util/function/LongSupplier"), (.object "com/example/turnwire/turnwire/Connection"), .int, (.object "java/util/Map"), (.array (.object "com/example/turnwire/turnwire/Game$Seat")), (.object "java/util/List"), (.object "com/example/turnwire/turnwire/Game$Phase"), (.object "java/nio/ByteBuffer"), .long, .boolean, .int, .int, (.object "java/nio/ByteBuffer"), (.object "com/example/turnwire/turnwire/Frame"), (.object "com/example/turnwire/turnwire/Frame"), (.array .byte), (.object "com/example/turnwire/turnwire/Outcome")]
  staticTypes := #[.long, (.object "java/util/function/LongSupplier")]
  resolved := Array.replicate 575 none
  statics := some 0 }

def pool3 : Array CpInfo := pool [(1, u "java/lang/Cloneable"), (0, .class_ 1), (0, u "java/lang/Object"), (0, .class_ 3)] 3

/-- java/lang/Cloneable -/
def k3 : Class := { plain "java/lang/Cloneable" (some 0) with
  accessFlags := 1537
  interfaces := #[]
  cf := some (fileOf pool3 2 #[] #[] 1537 4 #[] #[])
  fields := #[]
  methods := #[]
  instanceTypes := #[]
  staticTypes := #[]
  resolved := Array.replicate 8 none
  statics := none }

def pool4 : Array CpInfo := pool [(1, u "java/io/Serializable"), (0, .class_ 1), (0, u "java/lang/Object"), (0, .class_ 3)] 3

/-- java/io/Serializable -/
def k4 : Class := { plain "java/io/Serializable" (some 0) with
  accessFlags := 1537
  interfaces := #[]
  cf := some (fileOf pool4 2 #[] #[] 1537 4 #[] #[])
  fields := #[]
  methods := #[]
  instanceTypes := #[]
  staticTypes := #[]
  resolved := Array.replicate 8 none
  statics := none }

/-- the primitive byte -/
def k5 : Class := { plain "byte" none with kind := .primitive 'B', accessFlags := 0x411 }
/-- [B -/
def k6 : Class := { plain "[B" (some 0) with kind := .array 5 .byte, interfaces := #[3, 4], accessFlags := 1041 }

/-- the primitive int -/
def k7 : Class := { plain "int" none with kind := .primitive 'I', accessFlags := 0x411 }
/-- [I -/
def k8 : Class := { plain "[I" (some 0) with kind := .array 7 .int, interfaces := #[3, 4], accessFlags := 1041 }

def heap : Heap := #[{ cls := 2, slots := #[.long 1000000, .null], vm := .statics 2 }]
def classes : Array Class := #[k0, k1, k2, k3, k4, k5, k6, k7, k8]
def interned : List (Array UInt16 × Addr) := []
def slotsUsed : Nat := 2
def theMethod : MethodId := ⟨1, 1⟩
def args0 : Array Value := #[.long 5, .long 3]
def aboutOver (below : List Frame) : State where
  vm := { classes := classes, interned := interned.toArray }
  heap := heap
  slotsUsed := slotsUsed
  threads := #[{ frames := .invoking theMethod args0 :: below }]
def below0 : List Frame := [.native { method := ⟨0, 0⟩, args := #[] }]
def about1 : State := aboutOver below0
def p0 : Program := .bare "" "" ""
def e0 : Env := launch0.env 0 0 0
theorem w_frames : about1.frames = Frame.invoking theMethod args0 :: below0 := rfl
set_option maxRecDepth 65536 in
theorem w_args : argsFit about1.vm theMethod args0 = true := by decide +kernel
set_option maxRecDepth 65536 in
theorem w_heap : heapFits about1 = true := by decide +kernel
set_option maxRecDepth 65536 in
theorem w_runnable : about1.curStatus? = some .runnable := by decide +kernel
set_option maxRecDepth 65536 in
theorem w_alone : about1.alone = true := by decide +kernel
set_option maxRecDepth 65536 in
theorem w_named : about1.methodNamed? x = some theMethod := by decide +kernel
set_option maxRecDepth 65536 in
theorem w_hears : about1.hears theMethod below0 = true := by decide +kernel
set_option maxRecDepth 65536 in
theorem w_ripe : about1.ripe theMethod args0 below0 = true := by decide +kernel
theorem w_running : about1.status = .running := rfl
set_option maxRecDepth 65536 in
theorem w_room : about1.hasRoom e0.platform room_1 = true :=
  launch0.hasRoom_least _ room_1 (by decide +kernel) (by decide +kernel) (by decide +kernel) (by decide +kernel) (by decide +kernel) (by decide +kernel)
theorem allAtoms_all (ts : List Jvm.Cond) (a : Array Jvm.Value) (st : Jvm.State) : (allAtoms ts).before a st = ts.all (fun c => c.before a st) := by
  induction ts with
  | nil => rfl
  | cons c t ih =>
    show (Jvm.Cond.and c (allAtoms t)).before a st = _
    rw [Jvm.Cond.before_and, ih, List.all_cons]
def words1 : List Jvm.Cond := Jvm.Cond.code x code maxLocals ret :: tables_1
/-- a 'code' word, met by the world's own term for the bytes: nothing is compared byte by byte -/
theorem code_word {y : MethodName} {bytes : ByteArray} {mx : Nat} {rt : Option FieldType} {a : Array Value} {s : State} {m : MethodId} {meth : Method} {c : Code} (h1 : s.methodNamed? y = some m) (h2 : s.vm.method? m = some meth) (h3 : meth.code = some c) (h4 : c.code = bytes)
    (h5 : (c.maxLocals == mx && c.exceptionTable.isEmpty && decide (c.maxStack ≤ mostOperands) && decide (meth.sig.returnType = rt) && !meth.locks && decide (parseMethodDescriptor y.desc = some meth.sig)) = true) : (Jvm.Cond.code y bytes mx rt).before a s = true := by
  simp only [Bool.and_eq_true, beq_iff_eq, Bool.not_eq_true', decide_eq_true_eq] at h5
  obtain ⟨⟨⟨⟨⟨g1, g2⟩, g3⟩, g4⟩, g5⟩, g6⟩ := h5
  simp [Cond.before, Cond.holds, Cond.value, h1, h2, h3, h4, g1, g2, g3, g4, g5, g6]
def isCode : Jvm.Cond → Bool
  | .code _ _ _ _ => true
  | _ => false
theorem all_split {L : List Jvm.Cond} {P : Jvm.Cond → Bool} (h1 : L.all (fun c => isCode c || P c) = true) (h2 : ∀ c ∈ L.filter isCode, P c = true) : L.all P = true := by
  refine List.all_eq_true.mpr fun c hc => ?_
  have h := List.all_eq_true.mp h1 c hc
  rcases Bool.eq_false_or_eq_true (isCode c) with hi | hi
  · exact h2 c (List.mem_filter.mpr ⟨hc, hi⟩)
  · simpa [hi] using h
set_option maxRecDepth 65536 in
theorem w_c0 : (Jvm.Cond.code x code maxLocals ret).before args0 about1 = true := code_word (m := ⟨1, 1⟩) (meth := k1m1) (c := k1c1) (by decide +kernel) rfl rfl rfl (by decide +kernel)
set_option maxRecDepth 65536 in
theorem w_c1 : (Jvm.Cond.code ({ cls := "com/example/turnwire/turnwire/Game", name := "millisUntil", desc := "(JJ)J" } : Jvm.MethodName) prog_10_method_10_code (6 : Nat) (Option.some Jvm.ClassFile.FieldType.long)).before args0 about1 = true := code_word (m := ⟨2, 0⟩) (meth := k2m0) (c := k2c0) (by decide +kernel) rfl rfl rfl (by decide +kernel)
def codes1 : List Jvm.Cond := [Jvm.Cond.code x code maxLocals ret, Jvm.Cond.code ({ cls := "com/example/turnwire/turnwire/Game", name := "millisUntil", desc := "(JJ)J" } : Jvm.MethodName) prog_10_method_10_code (6 : Nat) (Option.some Jvm.ClassFile.FieldType.long)]
set_option maxRecDepth 65536 in
theorem codes_eq : words1.filter isCode = codes1 := rfl
theorem w_codes : ∀ c ∈ words1.filter isCode, c.before args0 about1 = true := by
  rw [codes_eq]
  intro c hc
  simp only [codes1, List.mem_cons, List.not_mem_nil, or_false] at hc
  rcases hc with rfl | rfl
  · exact w_c0
  · exact w_c1
set_option maxRecDepth 65536 in
theorem w_t1 : words1.all (fun c => isCode c || c.before args0 about1) = true := by decide +kernel
theorem w_tables : (allAtoms (Jvm.Cond.code x code maxLocals ret :: tables_1)).before args0 about1 = true := by
  rw [allAtoms_all]
  show words1.all (fun c => c.before args0 about1) = true
  refine all_split ?_ w_codes
  rw [w_t1]
set_option maxRecDepth 65536 in
theorem w_case : (Jvm.Cond.and given_1 narrow_1).before args0 about1 = true := by decide +kernel
theorem w_applies : (headSpec (Jvm.Cond.code x code maxLocals ret :: tables_1) room_1).applies x e0.platform about1 = true :=
  (Spec.applies_iff w_frames).mpr ⟨w_running, w_runnable, w_alone, w_named, w_hears, w_ripe, w_room, w_tables⟩
theorem atStart : AtStart classFile x code maxLocals ret World_1 tables_1 room_1 Calls_1 rest_1 Pre_1 launch0 p0 e0 about1 theMethod args0 below0 :=
  ⟨lists_1, trivial, launch0.admits_env _ _ _, launch0.least_env, fairChoices_fair.cas, fairChoices_fair.clock, w_frames, w_args, w_heap, w_applies, trivial, trivial, w_case⟩
end start1
theorem witness_1 : WitnessClaimed_1 := ⟨start1.p0, start1.e0, start1.about1, start1.theMethod, start1.args0, start1.below0, start1.atStart⟩
end Jvm.Pilot.@@N@@
