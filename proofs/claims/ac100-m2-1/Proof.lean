import JvmDerived
import JvmDerived.Pilot.@@N@@Statement
import JvmDerived.Pilot.@@N@@Code
set_option linter.unusedVariables false
set_option linter.unusedSimpArgs false
namespace Jvm.RoadKit
open Sem ClassFile Op Lib Jvm.Stand Jvm.Free Jvm.LawKit
section New
variable {p : Program} {l : Launch} {e : Env} {R : Room} {s : State} {m : MethodId} {args : Array Value} {below : List Frame} {meth : Method} {c : Code} {T : State} {locs : List Loc} {cells slots : Nat}
theorem own_retI (X : Stand p l e R s m args below meth c T locs cells slots) (hx : p.tables.exec = Jvm.exec) {pc : Nat} {Ls : Array Slot} {z : Int32} {rest : List Value} (hret : meth.sig.returnType = some .int) (hd : decode c.code pc = .ok (.ireturn, 1)) {fs : List Frame}
    (hl : ∀ (f : JFrame) (acts : List Action), f.method = m → f.locked = none → f.entered = [] → (doReturn e (T.setTop f) acts (some (.int z))).1 = T.setFrames fs) : Steps p.tables e below (T.setTop (mkF m pc Ls (.int z :: rest))) (T.setFrames fs) :=
  retOut X hx hret rfl (Or.inl ⟨rfl, Or.inl rfl, z, rfl⟩) hd hl
theorem own_retL (X : Stand p l e R s m args below meth c T locs cells slots) (hx : p.tables.exec = Jvm.exec) {pc : Nat} {Ls : Array Slot} {z : Int64} {rest : List Value} (hret : meth.sig.returnType = some .long) (hd : decode c.code pc = .ok (.lreturn, 1)) {fs : List Frame}
    (hl : ∀ (f : JFrame) (acts : List Action), f.method = m → f.locked = none → f.entered = [] → (doReturn e (T.setTop f) acts (some (.long z))).1 = T.setFrames fs) : Steps p.tables e below (T.setTop (mkF m pc Ls (.long z :: rest))) (T.setFrames fs) :=
  retOut X hx hret rfl (Or.inr (Or.inl ⟨rfl, rfl, z, rfl⟩)) hd hl
theorem own_retA (X : Stand p l e R s m args below meth c T locs cells slots) (hx : p.tables.exec = Jvm.exec) {pc : Nat} {Ls : Array Slot} {w : Value} {t : FieldType} {rest : List Value} (hret : meth.sig.returnType = some t) (ht : t.isReference = true) (hw : w.isRef = true) (hn : narrow t w = w) (hd : decode c.code pc = .ok (.areturn, 1)) {fs : List Frame}
    (hl : ∀ (f : JFrame) (acts : List Action), f.method = m → f.locked = none → f.entered = [] → (doReturn e (T.setTop f) acts (some w)).1 = T.setFrames fs) : Steps p.tables e below (T.setTop (mkF m pc Ls (w :: rest))) (T.setFrames fs) :=
  retOut X hx hret hn (Or.inr (Or.inr (Or.inr (Or.inr ⟨rfl, ht, hw⟩)))) hd hl
theorem own_lremM {g : JFrame} {target : State} (X : Stand p l e R s m args below meth c T locs cells slots) (hx : p.tables.exec = Jvm.exec) (hg : g.method = m) {x y : Int64} {rest : List Value} (hd : decode c.code g.pc = .ok (.lrem, 1)) (hs : g.stack = .long y :: .long x :: rest) (hy : y ≠ 0)
    (hr : Steps p.tables e below (T.setTop { g with pc := g.pc + 1, stack := .long (x % y) :: rest }) target) : Steps p.tables e below (T.setTop g) target := by
  have q : x - x / y * y = x % y := lrem_mod x y
  exact XS.lrem X.here hx hg hd hs hy (by rw [q]; exact hr)
theorem own_selp {Z s : State} {a0 args : Array Value} {y : MethodName} {n : Nat} (hZ : Z.Warmed39 s.vm) (wi : (Cond.instantiable y.cls n).before a0 Z = true) (wp : (Cond.privateMethod y).before a0 Z = true) (wm : (Cond.instanceMethod y).before a0 Z = true)
    (hy : y.cls ≠ "java/lang/invoke/MethodHandle" ∧ y.cls ≠ "java/lang/invoke/VarHandle") : (Cond.selects y.cls y y).before args s = true := by
  obtain ⟨c, k, h1, h2, h3, h4, -⟩ := Cond.instantiable_spec (mvT (args := args) hZ wi)
  exact selects_self_of_private h1 h2 (by simp only [Bool.or_eq_false_iff] at h4; exact h4.1) (Cond.privateMethod_at (mvP hZ wp (args := #[]))) (mvT hZ wm) hy
end New
end Jvm.RoadKit
namespace Jvm.Pilot.@@N@@
open Jvm Jvm.ClassFile Sem Op Lib Jvm.Free Jvm.Stand Jvm.LawKit Jvm.RoadKit Bundle Jvm.Pilot.@@N@@.Jvm.D
def own_bit (W : Nat → BitVec 64) (n : Nat) : Bool := (W (n / 64)).getLsbD (n % 64)
def own_upd (W : Nat → BitVec 64) (k : Nat) (x : BitVec 64) : Nat → BitVec 64 := fun n => if n = k then x else W n
def own_mask (w : Nat) : BitVec 64 := BitVec.allOnes 64 >>> (64 - w)
theorem own_mask_bit (w j : Nat) (hw : w ≤ 64) : (own_mask w).getLsbD j = decide (j < w) := by
  unfold own_mask
  rw [BitVec.getLsbD_ushiftRight, BitVec.getLsbD_allOnes]
  by_cases h : j < w
  · simp [h]; omega
  · simp [h]; omega
def own_setW (W : Nat → BitVec 64) (b w : Nat) (v : BitVec 64) : Nat → BitVec 64 :=
  let W1 := own_upd W (b / 64) ((W (b / 64) &&& ~~~(own_mask w <<< (b % 64))) ||| (v <<< (b % 64)))
  if 64 < b % 64 + w then own_upd W1 (b / 64 + 1) ((W1 (b / 64 + 1) &&& ~~~(own_mask w >>> (64 - b % 64))) ||| (v >>> (64 - b % 64))) else W1
def own_getW (W : Nat → BitVec 64) (b w : Nat) : BitVec 64 := ((W (b / 64) >>> (b % 64)) ||| (if 64 < b % 64 + w then W (b / 64 + 1) <<< (64 - b % 64) else 0#64)) &&& own_mask w
theorem own_bit_upd (W : Nat → BitVec 64) (k : Nat) (x : BitVec 64) (n : Nat) : own_bit (own_upd W k x) n = if n / 64 = k then x.getLsbD (n % 64) else own_bit W n := by
  unfold own_bit own_upd; split <;> rfl
theorem own_first (x v : BitVec 64) (w s r : Nat) (hw : w ≤ 64) (hs : s < 64) (hr : r < 64) : ((x &&& ~~~(own_mask w <<< s)) ||| (v <<< s)).getLsbD r = if s ≤ r ∧ r < s + w then v.getLsbD (r - s) else (x.getLsbD r || (decide (s ≤ r) && v.getLsbD (r - s))) := by
  simp only [BitVec.getLsbD_or, BitVec.getLsbD_and, BitVec.getLsbD_not, BitVec.getLsbD_shiftLeft, own_mask_bit _ _ hw]
  by_cases h1 : r < s
  · simp [h1, hr, show ¬ (s ≤ r) by omega]
  · by_cases h2 : r - s < w
    · simp [h1, h2, hr, show s ≤ r ∧ r < s + w by omega]
    · rw [if_neg (show ¬ (s ≤ r ∧ r < s + w) by omega)]; simp [h1, h2, hr, show s ≤ r by omega]
theorem own_second (x v : BitVec 64) (w s r : Nat) (hw : w ≤ 64) (hs : s < 64) (hr : r < 64) : ((x &&& ~~~(own_mask w >>> (64 - s))) ||| (v >>> (64 - s))).getLsbD r = if r + 64 < s + w then v.getLsbD (r + 64 - s) else (x.getLsbD r || v.getLsbD (r + 64 - s)) := by
  simp only [BitVec.getLsbD_or, BitVec.getLsbD_and, BitVec.getLsbD_not, BitVec.getLsbD_ushiftRight, own_mask_bit _ _ hw]
  have e : 64 - s + r = r + 64 - s := by omega
  rw [e]
  by_cases h : r + 64 < s + w
  · simp [h, hr, show r + 64 - s < w by omega]
  · simp [h, hr, show ¬ r + 64 - s < w by omega]
theorem own_set_bit (W : Nat → BitVec 64) (b w : Nat) (v : BitVec 64) (hw : w ≤ 64) (hv : ∀ j, w ≤ j → v.getLsbD j = false) (n : Nat) : own_bit (own_setW W b w v) n = if b ≤ n ∧ n < b + w then v.getLsbD (n - b) else own_bit W n := by
  have hs : b % 64 < 64 := Nat.mod_lt _ (by decide)
  have hr : n % 64 < 64 := Nat.mod_lt _ (by decide)
  have en := Nat.div_add_mod n 64
  have eb := Nat.div_add_mod b 64
  have A : own_bit (own_upd W (b / 64) ((W (b / 64) &&& ~~~(own_mask w <<< (b % 64))) ||| (v <<< (b % 64)))) n = if n / 64 = b / 64 ∧ b ≤ n ∧ n < b + w then v.getLsbD (n - b) else own_bit W n := by
    rw [own_bit_upd]
    by_cases h : n / 64 = b / 64
    · rw [if_pos h, own_first _ _ _ _ _ hw hs hr]
      by_cases q : b ≤ n ∧ n < b + w
      · rw [if_pos (show b % 64 ≤ n % 64 ∧ n % 64 < b % 64 + w by omega), if_pos ⟨h, q⟩, show n % 64 - b % 64 = n - b by omega]
      · rw [if_neg (show ¬ (b % 64 ≤ n % 64 ∧ n % 64 < b % 64 + w) by omega), if_neg (fun z => q z.2)]
        unfold own_bit; rw [h]
        by_cases z : b % 64 ≤ n % 64
        · rw [hv (n % 64 - b % 64) (by omega)]; simp
        · simp [z]
    · rw [if_neg h, if_neg (fun z => h z.1)]
  unfold own_setW
  by_cases c : 64 < b % 64 + w
  · simp only [if_pos c]
    rw [own_bit_upd]
    by_cases h : n / 64 = b / 64 + 1
    · rw [if_pos h]
      have hne : own_upd W (b / 64) ((W (b / 64) &&& ~~~(own_mask w <<< (b % 64))) ||| (v <<< (b % 64))) (b / 64 + 1) = W (b / 64 + 1) := by unfold own_upd; rw [if_neg (by omega)]
      rw [hne, own_second _ _ _ _ _ hw hs hr]
      by_cases q : b ≤ n ∧ n < b + w
      · rw [if_pos (show n % 64 + 64 < b % 64 + w by omega), if_pos q, show n % 64 + 64 - b % 64 = n - b by omega]
      · rw [if_neg (show ¬ (n % 64 + 64 < b % 64 + w) by omega), if_neg q, hv (n % 64 + 64 - b % 64) (by omega)]
        unfold own_bit; rw [h]; simp
    · rw [if_neg h, A]
      by_cases q : b ≤ n ∧ n < b + w
      · rw [if_pos q, if_pos ⟨by omega, q⟩]
      · rw [if_neg q, if_neg (fun z => q z.2)]
  · simp only [if_neg c]
    rw [A]
    by_cases q : b ≤ n ∧ n < b + w
    · rw [if_pos q, if_pos ⟨by omega, q⟩]
    · rw [if_neg q, if_neg (fun z => q z.2)]
theorem own_get_bit (W : Nat → BitVec 64) (b w : Nat) (hw : w ≤ 64) (j : Nat) : (own_getW W b w).getLsbD j = (decide (j < w) && own_bit W (b + j)) := by
  have hs : b % 64 < 64 := Nat.mod_lt _ (by decide)
  have eb := Nat.div_add_mod b 64
  unfold own_getW
  rw [BitVec.getLsbD_and, own_mask_bit _ _ hw, BitVec.getLsbD_or, BitVec.getLsbD_ushiftRight]
  by_cases h : j < w
  · simp only [h, decide_true, Bool.and_true, Bool.true_and]
    unfold own_bit
    by_cases q : b % 64 + j < 64
    · rw [show (b + j) / 64 = b / 64 by omega, show (b + j) % 64 = b % 64 + j by omega]
      have z : (if 64 < b % 64 + w then W (b / 64 + 1) <<< (64 - b % 64) else 0#64).getLsbD j = false := by
        split
        · rw [BitVec.getLsbD_shiftLeft]; simp [show j < 64 - b % 64 by omega]
        · simp
      rw [z, Bool.or_false]
    · rw [show (b + j) / 64 = b / 64 + 1 by omega, show (b + j) % 64 = b % 64 + j - 64 by omega, if_pos (show 64 < b % 64 + w by omega), BitVec.getLsbD_of_ge _ _ (show 64 ≤ b % 64 + j by omega), BitVec.getLsbD_shiftLeft, Bool.false_or]
      simp [show j < 64 by omega, show ¬ j < 64 - b % 64 by omega, show j - (64 - b % 64) = b % 64 + j - 64 by omega]
  · simp [h]
theorem own_get_eq (W : Nat → BitVec 64) (b w : Nat) (hw : w ≤ 64) (v : BitVec 64) (hv : ∀ j, w ≤ j → v.getLsbD j = false) (h : ∀ j, j < w → own_bit W (b + j) = v.getLsbD j) : own_getW W b w = v := by
  apply BitVec.eq_of_getLsbD_eq
  intro j hj
  rw [own_get_bit _ _ _ hw]
  by_cases q : j < w
  · simp [q, h j q]
  · simp [q, hv j (by omega)]
/-- index i of width w, after a write at index i' -/
theorem own_apart (i i' w j : Nat) (hj : j < w) (h : i ≠ i') : ¬ (i' * w ≤ i * w + j ∧ i * w + j < i' * w + w) := by
  intro q
  rcases Nat.lt_or_gt_of_ne h with l | l
  · have := Nat.mul_le_mul_right w (show i + 1 ≤ i' from l); rw [Nat.add_mul] at this; omega
  · have := Nat.mul_le_mul_right w (show i' + 1 ≤ i from l); rw [Nat.add_mul] at this; omega
def own_Af (Z : State) (h : Heap) (a : Addr) (n : Nat) (f : Nat → Int64) : Prop := ∃ c : Cell, Arr Z h a c .long ∧ c.slots.size = n ∧ ∀ j, j < n → c.slots[j]? = some (.long (f j))
theorem own_Af_ext {Z : State} {h h' : Heap} {a : Addr} {n : Nat} {f : Nat → Int64} (F : own_Af Z h a n f) (E : Ext h h') : own_Af Z h' a n f := by obtain ⟨c, A, r⟩ := F; exact ⟨c, A.ext E, r⟩
theorem own_Af_other {Z : State} {h h' : Heap} {a b : Addr} {n sl : Nat} {v : Value} {f : Nat → Int64} (F : own_Af Z h b n f) (W : Wr h h' a sl v) (q : b ≠ a) : own_Af Z h' b n f := by obtain ⟨c, A, r⟩ := F; exact ⟨c, A.other W q, r⟩
theorem own_Af_wr {Z : State} {h h' : Heap} {a : Addr} {n j : Nat} {x : Int64} {f : Nat → Int64} (F : own_Af Z h a n f) (W : Wr h h' a j (.long x)) : own_Af Z h' a n (fun i => if i = j then x else f i) := by
  obtain ⟨c, A, S, H⟩ := F
  refine ⟨_, A.same W, by rw [sz_set]; exact S, fun i hi => ?_⟩
  show (c.slots.setIfInBounds j (.long x))[i]? = some (.long (if i = j then x else f i))
  by_cases q : i = j
  · subst q; rw [if_pos rfl, Array.getElem?_setIfInBounds_self_of_lt (by omega)]
  · rw [if_neg q, Array.getElem?_setIfInBounds_ne (fun z => q z.symm)]; exact H i hi
def own_St (Z : State) (h : Heap) (n0 : Nat) (a ps : Addr) (np : Nat) (P : Nat → Addr) (ln : Nat → Nat) (w : Int32) (mk : Int64) (W : Nat → Int64) : Prop :=
  Exa Z h a "com/example/holdover/holdover/analysis/FixedWidthLongs" ∧ Fld Z h a "com/example/holdover/holdover/analysis/FixedWidthLongs" "width" "I" (.int w) ∧ Fld Z h a "com/example/holdover/holdover/analysis/FixedWidthLongs" "mask" "J" (.long mk) ∧ Fld Z h a "com/example/holdover/holdover/analysis/FixedWidthLongs" "pages" "[[J" (.ref ps) ∧ (∃ c : Cell, Arr Z h ps c (.array .long) ∧ c.slots.size = np ∧ ∀ q, q < np → c.slots[q]? = some (.ref (P q))) ∧ (∀ q, q < np → own_Af Z h (P q) (ln q) (fun j => W (8192 * q + j)) ∧ a ≠ P q ∧ ps ≠ P q ∧ n0 ≤ P q ∧ ln q ≤ 8192) ∧ (∀ q r, q < np → r < np → P q = P r → q = r)
theorem own_St_wr {Z : State} {h h' : Heap} {n0 : Nat} {a ps : Addr} {np : Nat} {P : Nat → Addr} {ln : Nat → Nat} {w : Int32} {mk : Int64} {W : Nat → Int64} (S : own_St Z h n0 a ps np P ln w mk W) {q j : Nat} {x : Int64} (hq : q < np) (hj : j < 8192) (R : Wr h h' (P q) j (.long x)) : own_St Z h' n0 a ps np P ln w mk (fun n => if n = 8192 * q + j then x else W n) := by
  obtain ⟨E, F1, F2, F3, ⟨c, A, Sz, H⟩, HA, inj⟩ := S
  obtain ⟨-, n1, n2, -, -⟩ := HA q hq
  refine ⟨E.wr R, F1.other R (Or.inl n1), F2.other R (Or.inl n1), F3.other R (Or.inl n1), ⟨c, A.other R n2, Sz, H⟩, fun r hr => ?_, inj⟩
  obtain ⟨G, m1, m2, m3, m4⟩ := HA r hr
  refine ⟨?_, m1, m2, m3, m4⟩
  by_cases e : r = q
  · subst e
    have := own_Af_wr G R
    have ef : (fun i => if i = j then x else W (8192 * r + i)) = (fun i => if 8192 * r + i = 8192 * r + j then x else W (8192 * r + i)) := by
      funext i; by_cases z : i = j
      · rw [if_pos z, if_pos (by omega)]
      · rw [if_neg z, if_neg (by omega)]
    rw [ef] at this; exact this
  · obtain ⟨c', A', S', H'⟩ := own_Af_other G R (fun z => e (inj _ _ hr hq z))
    refine ⟨c', A', S', fun i hi => ?_⟩
    show c'.slots[i]? = some (.long (if 8192 * r + i = 8192 * q + j then x else W (8192 * r + i)))
    rw [if_neg (show ¬ 8192 * r + i = 8192 * q + j by omega)]; exact H' i hi
theorem own_sz64 {s : Int32} {k : Nat} (hs : s.toInt = k) (hk : k < 64) : s.toBitVec.toNat % 64 = k := by
  have h1 : s.toBitVec.toInt = k := hs
  rw [BitVec.toInt_eq_toNat_cond] at h1
  have h2 := s.toBitVec.isLt
  split at h1 <;> omega
theorem own_ushr (x : Int64) (s : Int32) (k : Nat) (hs : s.toInt = k) (hk : k < 64) : ((x.toUInt64 >>> (s &&& 0x3f).toInt64.toUInt64).toInt64).toBitVec = x.toBitVec >>> k := by
  show x.toBitVec >>> ((s &&& 0x3f).toInt64.toBitVec % 64) = _
  rw [(sm64 s k (own_sz64 hs hk)).1, BitVec.ushiftRight_eq']
  congr 1
  rw [BitVec.toNat_umod, BitVec.toNat_ofNat]; show k % 2 ^ 64 % 64 = k; omega
theorem own_shl (x : Int64) (s : Int32) (k : Nat) (hs : s.toInt = k) (hk : k < 64) : (x <<< (s &&& 0x3f).toInt64).toBitVec = x.toBitVec <<< k := by
  show x.toBitVec <<< ((s &&& 0x3f).toInt64.toBitVec.smod 64) = _
  rw [(sm64 s k (own_sz64 hs hk)).1, BitVec.shiftLeft_eq', smod64 k hk]
theorem own_not (x : Int64) : (x ^^^ (-1 : Int64)).toBitVec = ~~~ x.toBitVec := by
  show x.toBitVec ^^^ (-1 : Int64).toBitVec = _
  rw [show (-1 : Int64).toBitVec = BitVec.allOnes 64 from by decide, BitVec.xor_allOnes]
theorem own_nn {x : Int32} (h : 0 ≤ x.toInt) : (x.toNatClampNeg : Int) = x.toInt := by simp only [Int32.toNatClampNeg]; omega
theorem own_l2i {x : Int64} {n : Nat} (h : x.toInt = n) (hn : n < 2147483648) : x.toInt32.toInt = n := by
  have := c_l2i x; have := rng32 x.toInt32; omega
theorem own_pg {x : Int64} {n : Nat} (h : x.toInt = n) (hn : n < 2097152) : (((x.toUInt64 >>> ((13 : Int32) &&& 0x3f).toInt64.toUInt64).toInt64).toInt32).toInt = ((n / 8192 : Nat) : Int) := by
  have a := c_lushr x 13 13 (by decide) (by decide)
  refine own_l2i (n := n / 8192) ?_ (by omega)
  rw [a, h]; omega
theorem own_ix {x : Int64} {n : Nat} (h : x.toInt = n) (hn : n < 2097152) : (x.toInt32 &&& (8191 : Int32)).toInt = ((n % 8192 : Nat) : Int) := by
  have a := c_mask x.toInt32 8191 13 (by decide) (by decide)
  rw [a, own_l2i h (by omega)]; omega
theorem own_inp {j : Int32} {q np : Nat} (h : j.toInt = q) (hq : q < np) (c : Cell) (hc : c.slots.size = np) : ¬ (j < 0 ∨ c.slots.size ≤ j.toNatClampNeg) ∧ j.toNatClampNeg = q := by
  have z0 : (0 : Int32).toInt = 0 := rfl
  have e : j.toNatClampNeg = q := by simp only [Int32.toNatClampNeg]; omega
  refine ⟨?_, e⟩
  rw [e, hc, Int32.lt_iff_toInt_lt]; omega
theorem own_pos {i w : Int32} {bt wd : Int64} {sh : Int32} (hi : 0 ≤ i.toInt ∧ i.toInt < 1048576) (hw : 1 ≤ w.toInt ∧ w.toInt ≤ 64) (hb : bt = i.toInt64 * w.toInt64) (hd : wd = bt / (64 : Int64)) (hs : sh = (bt % (64 : Int64)).toInt32) : bt.toInt = ((i.toNatClampNeg * w.toNatClampNeg : Nat) : Int) ∧ wd.toInt = ((i.toNatClampNeg * w.toNatClampNeg / 64 : Nat) : Int) ∧ sh.toInt = ((i.toNatClampNeg * w.toNatClampNeg % 64 : Nat) : Int) := by
  have e1 := c_i2l i; have e2 := c_i2l w
  have m := c_lmul i.toInt64 w.toInt64; rw [e1, e2] at m
  have r := rng64 (i.toInt64 * w.toInt64)
  have ni := own_nn hi.1; have nw := own_nn (show 0 ≤ w.toInt by omega)
  have p : i.toInt * w.toInt = ((i.toNatClampNeg * w.toNatClampNeg : Nat) : Int) := by rw [Int.natCast_mul, ni, nw]
  have pb : i.toNatClampNeg * w.toNatClampNeg ≤ 1048576 * 64 := Nat.mul_le_mul (by omega) (by omega)
  have eb : bt.toInt = ((i.toNatClampNeg * w.toNatClampNeg : Nat) : Int) := by rw [hb]; rw [p] at m; omega
  have z : (64 : Int64).toInt = 64 := rfl
  have d := (c_ldiv bt 64 64 rfl (by decide)).1 (by omega)
  have mm : (bt % (64 : Int64)).toInt = bt.toInt % 64 := by rw [Int64.toInt_mod, z]; exact Int.tmod_eq_emod_of_nonneg (by omega)
  refine ⟨eb, by rw [hd, d, eb]; omega, ?_⟩
  rw [hs]; refine own_l2i (n := i.toNatClampNeg * w.toNatClampNeg % 64) ?_ (by omega)
  rw [mm, eb]; omega
theorem own_W1 (W : Nat → Int64) (w b : Nat) (mk v : Int64) (sh : Int32) (hsh : sh.toInt = ((b % 64 : Nat) : Int)) (hm : mk.toBitVec = own_mask w) : ((W (b / 64) &&& ((mk <<< (sh &&& 0x3f).toInt64) ^^^ (-1 : Int64))) ||| (v <<< (sh &&& 0x3f).toInt64)).toBitVec = (W (b / 64)).toBitVec &&& ~~~(own_mask w <<< (b % 64)) ||| v.toBitVec <<< (b % 64) := by
  rw [Int64.toBitVec_or, Int64.toBitVec_and, own_not, own_shl mk sh _ hsh (by omega), own_shl v sh _ hsh (by omega), hm]
theorem own_rem {sh : Int32} {b : Nat} (hsh : sh.toInt = ((b % 64 : Nat) : Int)) (h0 : 0 < b % 64) : ((64 : Int32) - sh).toInt = ((64 - b % 64 : Nat) : Int) := by
  have := c_isub 64 sh; have := rng32 ((64 : Int32) - sh); have z : (64 : Int32).toInt = 64 := rfl; omega
theorem own_W2 (x : Int64) (w b : Nat) (mk v : Int64) (sh : Int32) (hsh : sh.toInt = ((b % 64 : Nat) : Int)) (h0 : 0 < b % 64) (hm : mk.toBitVec = own_mask w) : ((x &&& (((mk.toUInt64 >>> (((64 : Int32) - sh) &&& 0x3f).toInt64.toUInt64).toInt64) ^^^ (-1 : Int64))) ||| ((v.toUInt64 >>> (((64 : Int32) - sh) &&& 0x3f).toInt64.toUInt64).toInt64)).toBitVec = x.toBitVec &&& ~~~(own_mask w >>> (64 - b % 64)) ||| v.toBitVec >>> (64 - b % 64) := by
  have hr := own_rem hsh h0
  rw [Int64.toBitVec_or, Int64.toBitVec_and, own_not, own_ushr mk _ _ hr (by omega), own_ushr v _ _ hr (by omega), hm]
theorem own_cross {sh w : Int32} {b : Nat} (hsh : sh.toInt = ((b % 64 : Nat) : Int)) (hw : 1 ≤ w.toInt ∧ w.toInt ≤ 64) : ((64 : Int32) < sh + w ↔ 64 < b % 64 + w.toNatClampNeg) := by
  have := c_iadd sh w; have := rng32 (sh + w); have z : (64 : Int32).toInt = 64 := rfl; have := own_nn (show 0 ≤ w.toInt by omega)
  rw [Int32.lt_iff_toInt_lt]; omega
theorem own_l1 {x : Int64} {n : Nat} (h : x.toInt = n) (hn : n < 1048576) : (x + (1 : Int64)).toInt = ((n + 1 : Nat) : Int) := by
  have := c_ladd x 1; have := rng64 (x + 1); have z : (1 : Int64).toInt = 1 := rfl; omega
theorem own_set64 (W : Nat → BitVec 64) (i : Nat) (v : BitVec 64) : own_setW W (i * 64) 64 v = fun n => if n = i then v else W n := by
  funext n
  have e1 : i * 64 / 64 = i := by omega
  have e2 : i * 64 % 64 = 0 := by omega
  simp only [own_setW, e1, e2, Nat.zero_add, Nat.lt_irrefl, if_false, own_upd]
  by_cases q : n = i
  · rw [if_pos q, if_pos q]
    have : own_mask 64 = BitVec.allOnes 64 := by decide
    rw [this]; simp
  · rw [if_neg q, if_neg q]
/-- which words there are -/
def own_ok (np : Nat) (ln : Nat → Nat) (tot : Nat) : Prop := ∀ n, n * 64 < tot → n / 8192 < np ∧ n % 8192 < ln (n / 8192)
theorem own_in1 {i w sz : Nat} (h : i < sz) (hw : 1 ≤ w) : i * w / 64 * 64 < sz * w := by
  have : i * w < sz * w := Nat.mul_lt_mul_of_pos_right h (by omega)
  omega
theorem own_in2 {i w sz : Nat} (h : i < sz) (hw : w ≤ 64) (hc : 64 < i * w % 64 + w) : (i * w / 64 + 1) * 64 < sz * w := by
  have : (i + 1) * w ≤ sz * w := Nat.mul_le_mul_right w h
  rw [Nat.add_mul, Nat.one_mul] at this; omega
def Q11 (Z : State) (a1 ps : Addr) (np : Nat) (P : Nat → Addr) (ln : Nat → Nat) (w : Int32) (mk : Int64) (W : Nat → Int64) (p1 : Int32) (v2 : Int64) (h0 : Heap) (n0 : Nat) (v : Option Value) (h : Heap) (L : List Loc) : Prop := ∃ W' : Nat → Int64, v = none ∧ Fr n0 L ∧ own_St Z h n0 a1 ps np P ln w mk W' ∧ n0 ≤ h.size ∧ (fun n => (W' n).toBitVec) = own_setW (fun n => (W n).toBitVec) (p1.toNatClampNeg * w.toNatClampNeg) w.toNatClampNeg v2.toBitVec
theorem own_pgi {i : Int32} (hi : 0 ≤ i.toInt ∧ i.toInt < 1048576) : ((i.toUInt32 >>> ((13 : Int32) &&& 31).toUInt32).toInt32).toInt = ((i.toNatClampNeg / 8192 : Nat) : Int) := by
  have a := c_iushr i 13 13 (by decide) (by decide); have := own_nn hi.1
  rw [a]; omega
theorem own_ixi {i : Int32} (hi : 0 ≤ i.toInt ∧ i.toInt < 1048576) : (i &&& (8191 : Int32)).toInt = ((i.toNatClampNeg % 8192 : Nat) : Int) := by
  have a := c_mask i 8191 13 (by decide) (by decide); have := own_nn hi.1
  rw [a]; omega
theorem d11_0 : decode prog_26_method_8_code 0 = .ok (.aload_n 0, 1) := by decide +kernel
theorem d11_1 : decode prog_26_method_8_code 1 = .ok (.getfield 30, 3) := by decide +kernel
theorem d11_4 : decode prog_26_method_8_code 4 = .ok (.bipush 64, 2) := by decide +kernel
theorem d11_6 : decode prog_26_method_8_code 6 = .ok (.if_icmp .ne 20, 3) := by decide +kernel
theorem d11_9 : decode prog_26_method_8_code 9 = .ok (.aload_n 0, 1) := by decide +kernel
theorem d11_10 : decode prog_26_method_8_code 10 = .ok (.getfield 47, 3) := by decide +kernel
theorem d11_13 : decode prog_26_method_8_code 13 = .ok (.iload_n 1, 1) := by decide +kernel
theorem d11_14 : decode prog_26_method_8_code 14 = .ok (.bipush 13, 2) := by decide +kernel
theorem d11_16 : decode prog_26_method_8_code 16 = .ok (.iushr, 1) := by decide +kernel
theorem d11_17 : decode prog_26_method_8_code 17 = .ok (.aaload, 1) := by decide +kernel
theorem d11_18 : decode prog_26_method_8_code 18 = .ok (.iload_n 1, 1) := by decide +kernel
theorem d11_19 : decode prog_26_method_8_code 19 = .ok (.sipush 8191, 3) := by decide +kernel
theorem d11_22 : decode prog_26_method_8_code 22 = .ok (.iand, 1) := by decide +kernel
theorem d11_23 : decode prog_26_method_8_code 23 = .ok (.lload_n 2, 1) := by decide +kernel
theorem d11_24 : decode prog_26_method_8_code 24 = .ok (.lastore, 1) := by decide +kernel
theorem d11_25 : decode prog_26_method_8_code 25 = .ok (.return_, 1) := by decide +kernel
theorem d11_26 : decode prog_26_method_8_code 26 = .ok (.iload_n 1, 1) := by decide +kernel
theorem d11_27 : decode prog_26_method_8_code 27 = .ok (.i2l, 1) := by decide +kernel
theorem d11_28 : decode prog_26_method_8_code 28 = .ok (.aload_n 0, 1) := by decide +kernel
theorem d11_29 : decode prog_26_method_8_code 29 = .ok (.getfield 30, 3) := by decide +kernel
theorem d11_32 : decode prog_26_method_8_code 32 = .ok (.i2l, 1) := by decide +kernel
theorem d11_33 : decode prog_26_method_8_code 33 = .ok (.lmul, 1) := by decide +kernel
theorem d11_34 : decode prog_26_method_8_code 34 = .ok (.lstore 4, 2) := by decide +kernel
theorem d11_36 : decode prog_26_method_8_code 36 = .ok (.lload 4, 2) := by decide +kernel
theorem d11_38 : decode prog_26_method_8_code 38 = .ok (.ldc2_w 55, 3) := by decide +kernel
theorem d11_41 : decode prog_26_method_8_code 41 = .ok (.ldiv, 1) := by decide +kernel
theorem d11_42 : decode prog_26_method_8_code 42 = .ok (.lstore 6, 2) := by decide +kernel
theorem d11_44 : decode prog_26_method_8_code 44 = .ok (.lload 4, 2) := by decide +kernel
theorem d11_46 : decode prog_26_method_8_code 46 = .ok (.ldc2_w 55, 3) := by decide +kernel
theorem d11_49 : decode prog_26_method_8_code 49 = .ok (.lrem, 1) := by decide +kernel
theorem d11_50 : decode prog_26_method_8_code 50 = .ok (.l2i, 1) := by decide +kernel
theorem d11_51 : decode prog_26_method_8_code 51 = .ok (.istore 8, 2) := by decide +kernel
theorem d11_53 : decode prog_26_method_8_code 53 = .ok (.aload_n 0, 1) := by decide +kernel
theorem d11_54 : decode prog_26_method_8_code 54 = .ok (.getfield 47, 3) := by decide +kernel
theorem d11_57 : decode prog_26_method_8_code 57 = .ok (.lload 6, 2) := by decide +kernel
theorem d11_59 : decode prog_26_method_8_code 59 = .ok (.bipush 13, 2) := by decide +kernel
theorem d11_61 : decode prog_26_method_8_code 61 = .ok (.lushr, 1) := by decide +kernel
theorem d11_62 : decode prog_26_method_8_code 62 = .ok (.l2i, 1) := by decide +kernel
theorem d11_63 : decode prog_26_method_8_code 63 = .ok (.aaload, 1) := by decide +kernel
theorem d11_64 : decode prog_26_method_8_code 64 = .ok (.astore 9, 2) := by decide +kernel
theorem d11_66 : decode prog_26_method_8_code 66 = .ok (.lload 6, 2) := by decide +kernel
theorem d11_68 : decode prog_26_method_8_code 68 = .ok (.l2i, 1) := by decide +kernel
theorem d11_69 : decode prog_26_method_8_code 69 = .ok (.sipush 8191, 3) := by decide +kernel
theorem d11_72 : decode prog_26_method_8_code 72 = .ok (.iand, 1) := by decide +kernel
theorem d11_73 : decode prog_26_method_8_code 73 = .ok (.istore 10, 2) := by decide +kernel
theorem d11_75 : decode prog_26_method_8_code 75 = .ok (.aload 9, 2) := by decide +kernel
theorem d11_77 : decode prog_26_method_8_code 77 = .ok (.iload 10, 2) := by decide +kernel
theorem d11_79 : decode prog_26_method_8_code 79 = .ok (.aload 9, 2) := by decide +kernel
theorem d11_81 : decode prog_26_method_8_code 81 = .ok (.iload 10, 2) := by decide +kernel
theorem d11_83 : decode prog_26_method_8_code 83 = .ok (.laload, 1) := by decide +kernel
theorem d11_84 : decode prog_26_method_8_code 84 = .ok (.aload_n 0, 1) := by decide +kernel
theorem d11_85 : decode prog_26_method_8_code 85 = .ok (.getfield 35, 3) := by decide +kernel
theorem d11_88 : decode prog_26_method_8_code 88 = .ok (.iload 8, 2) := by decide +kernel
theorem d11_90 : decode prog_26_method_8_code 90 = .ok (.lshl, 1) := by decide +kernel
theorem d11_91 : decode prog_26_method_8_code 91 = .ok (.ldc2_w 33, 3) := by decide +kernel
theorem d11_94 : decode prog_26_method_8_code 94 = .ok (.lxor, 1) := by decide +kernel
theorem d11_95 : decode prog_26_method_8_code 95 = .ok (.land, 1) := by decide +kernel
theorem d11_96 : decode prog_26_method_8_code 96 = .ok (.lload_n 2, 1) := by decide +kernel
theorem d11_97 : decode prog_26_method_8_code 97 = .ok (.iload 8, 2) := by decide +kernel
theorem d11_99 : decode prog_26_method_8_code 99 = .ok (.lshl, 1) := by decide +kernel
theorem d11_100 : decode prog_26_method_8_code 100 = .ok (.lor, 1) := by decide +kernel
theorem d11_101 : decode prog_26_method_8_code 101 = .ok (.lastore, 1) := by decide +kernel
theorem d11_102 : decode prog_26_method_8_code 102 = .ok (.iload 8, 2) := by decide +kernel
theorem d11_104 : decode prog_26_method_8_code 104 = .ok (.aload_n 0, 1) := by decide +kernel
theorem d11_105 : decode prog_26_method_8_code 105 = .ok (.getfield 30, 3) := by decide +kernel
theorem d11_108 : decode prog_26_method_8_code 108 = .ok (.iadd, 1) := by decide +kernel
theorem d11_109 : decode prog_26_method_8_code 109 = .ok (.bipush 64, 2) := by decide +kernel
theorem d11_111 : decode prog_26_method_8_code 111 = .ok (.if_icmp .le 63, 3) := by decide +kernel
theorem d11_114 : decode prog_26_method_8_code 114 = .ok (.bipush 64, 2) := by decide +kernel
theorem d11_116 : decode prog_26_method_8_code 116 = .ok (.iload 8, 2) := by decide +kernel
theorem d11_118 : decode prog_26_method_8_code 118 = .ok (.isub, 1) := by decide +kernel
theorem d11_119 : decode prog_26_method_8_code 119 = .ok (.istore 11, 2) := by decide +kernel
theorem d11_121 : decode prog_26_method_8_code 121 = .ok (.aload_n 0, 1) := by decide +kernel
theorem d11_122 : decode prog_26_method_8_code 122 = .ok (.getfield 47, 3) := by decide +kernel
theorem d11_125 : decode prog_26_method_8_code 125 = .ok (.lload 6, 2) := by decide +kernel
theorem d11_127 : decode prog_26_method_8_code 127 = .ok (.lconst 1, 1) := by decide +kernel
theorem d11_128 : decode prog_26_method_8_code 128 = .ok (.ladd, 1) := by decide +kernel
theorem d11_129 : decode prog_26_method_8_code 129 = .ok (.bipush 13, 2) := by decide +kernel
theorem d11_131 : decode prog_26_method_8_code 131 = .ok (.lushr, 1) := by decide +kernel
theorem d11_132 : decode prog_26_method_8_code 132 = .ok (.l2i, 1) := by decide +kernel
theorem d11_133 : decode prog_26_method_8_code 133 = .ok (.aaload, 1) := by decide +kernel
theorem d11_134 : decode prog_26_method_8_code 134 = .ok (.astore 12, 2) := by decide +kernel
theorem d11_136 : decode prog_26_method_8_code 136 = .ok (.lload 6, 2) := by decide +kernel
theorem d11_138 : decode prog_26_method_8_code 138 = .ok (.lconst 1, 1) := by decide +kernel
theorem d11_139 : decode prog_26_method_8_code 139 = .ok (.ladd, 1) := by decide +kernel
theorem d11_140 : decode prog_26_method_8_code 140 = .ok (.l2i, 1) := by decide +kernel
theorem d11_141 : decode prog_26_method_8_code 141 = .ok (.sipush 8191, 3) := by decide +kernel
theorem d11_144 : decode prog_26_method_8_code 144 = .ok (.iand, 1) := by decide +kernel
theorem d11_145 : decode prog_26_method_8_code 145 = .ok (.istore 13, 2) := by decide +kernel
theorem d11_147 : decode prog_26_method_8_code 147 = .ok (.aload 12, 2) := by decide +kernel
theorem d11_149 : decode prog_26_method_8_code 149 = .ok (.iload 13, 2) := by decide +kernel
theorem d11_151 : decode prog_26_method_8_code 151 = .ok (.aload 12, 2) := by decide +kernel
theorem d11_153 : decode prog_26_method_8_code 153 = .ok (.iload 13, 2) := by decide +kernel
theorem d11_155 : decode prog_26_method_8_code 155 = .ok (.laload, 1) := by decide +kernel
theorem d11_156 : decode prog_26_method_8_code 156 = .ok (.aload_n 0, 1) := by decide +kernel
theorem d11_157 : decode prog_26_method_8_code 157 = .ok (.getfield 35, 3) := by decide +kernel
theorem d11_160 : decode prog_26_method_8_code 160 = .ok (.iload 11, 2) := by decide +kernel
theorem d11_162 : decode prog_26_method_8_code 162 = .ok (.lushr, 1) := by decide +kernel
theorem d11_163 : decode prog_26_method_8_code 163 = .ok (.ldc2_w 33, 3) := by decide +kernel
theorem d11_166 : decode prog_26_method_8_code 166 = .ok (.lxor, 1) := by decide +kernel
theorem d11_167 : decode prog_26_method_8_code 167 = .ok (.land, 1) := by decide +kernel
theorem d11_168 : decode prog_26_method_8_code 168 = .ok (.lload_n 2, 1) := by decide +kernel
theorem d11_169 : decode prog_26_method_8_code 169 = .ok (.iload 11, 2) := by decide +kernel
theorem d11_171 : decode prog_26_method_8_code 171 = .ok (.lushr, 1) := by decide +kernel
theorem d11_172 : decode prog_26_method_8_code 172 = .ok (.lor, 1) := by decide +kernel
theorem d11_173 : decode prog_26_method_8_code 173 = .ok (.lastore, 1) := by decide +kernel
theorem d11_174 : decode prog_26_method_8_code 174 = .ok (.return_, 1) := by decide +kernel
theorem pn_com_example_holdover_holdover_analysis_FixedWidthLongs : plainName "com/example/holdover/holdover/analysis/FixedWidthLongs" = true := by first | (simp [plainName, overriddenIn]; done) | decide +kernel
theorem ef_rm11 (m : MethodId) (x0 : Addr) (x1 : Int32) (x2 : Int64) : entryFrame m #[(.ref x0), (.int x1), (.long x2)] 14 = mkF m 0 #[.val (.ref x0), .val (.int x1), .val (.long x2), .second, .unset, .unset, .unset, .unset, .unset, .unset, .unset, .unset, .unset, .unset] [] := by first | (simp [entryFrame, mkF, argsToLocals, Value.category]; done) | rfl
set_option maxRecDepth 65536 in
set_option maxHeartbeats 40000000 in
theorem rm11 (l : Launch) (Z : State) (a0 : Array Value) (hw : ∀ d ∈ tables_1, d.before a0 Z = true) (ws : List Jvm.Cond) (a1 ps : Addr) (np : Nat) (P : Nat → Addr) (ln : Nat → Nat) (w : Int32) (mk : Int64) (W : Nat → Int64) (p1 : Int32) (v2 : Int64) (sz : Nat) (h0 : Heap) (n0 : Nat) (Z0 : n0 ≤ h0.size) (S0 : own_St Z h0 n0 a1 ps np P ln w mk W) (hwd : 1 ≤ w.toInt ∧ w.toInt ≤ 64) (hm : mk.toBitVec = own_mask w.toNatClampNeg) (hok : own_ok np ln (sz * w.toNatClampNeg)) (hi : 0 ≤ p1.toInt ∧ p1.toInt < 1048576) (his : p1.toNatClampNeg < sz) :
    MetFree l (⟨"com/example/holdover/holdover/analysis/FixedWidthLongs", "set", "(IJ)V"⟩ : MethodName) (head1 (Jvm.Cond.code (⟨"com/example/holdover/holdover/analysis/FixedWidthLongs", "set", "(IJ)V"⟩ : MethodName) prog_26_method_8_code 14 none :: ws) ({ frames := 0, cells := 0, slots := 0, locals := 0 } : Room)) (fun a U => a = #[(.ref a1), (.int p1), (.long v2)] ∧ Z.Warmed39 U.vm ∧ U.heap = h0) (fun _ _ _ _ _ => True) (fun _ U o U' => ∃ v L, o = .returned v ∧ Q11 Z a1 ps np P ln w mk W p1 v2 h0 n0 v U'.heap L ∧ FrameEnd U o U' L ({ frames := 0, cells := 0, slots := 0, locals := 0 } : Room).cells ({ frames := 0, cells := 0, slots := 0, locals := 0 } : Room).slots) := by
  refine MetFree.of_bodySF (plainFor_of_name pn_com_example_holdover_holdover_analysis_FixedWidthLongs) hisR ?_
  intro p e s m args below meth c s₁ Bd hml0 hP hK
  obtain ⟨rfl, hZ, hh⟩ := hP
  have hx := Bd.exec
  have hby := Bd.bytes
  have hml : c.maxLocals = 14 := hml0
  have hown : s.vm.findClass "com/example/holdover/holdover/analysis/FixedWidthLongs" = some m.cls := findClass_of_methodNamed Bd.named
  have hnm := (name_of_methodNamed Bd.named Bd.method).1
  have X0 : Stand p l e ({ frames := 0, cells := 0, slots := 0, locals := 0 } : Room) s m #[(.ref a1), (.int p1), (.long v2)] below meth c s₁ [] 0 0 := Stand.of_body Bd
  have e0 : s₁.heap = h0 := by rw [← hh, Bd.state]; rfl
  have N0 := Fr.nil n0
  have KP0 : Keep h0 h0 [] := Keep.refl h0 _
  obtain ⟨G, hG⟩ : ∃ G : State, G = s₁.setTop (entryFrame m #[(.ref a1), (.int p1), (.long v2)] 14) := ⟨_, rfl⟩
  have pre0 : ∀ t, Steps p.tables e below (s₁.setTop (mkF m 0 #[.val (.ref a1), .val (.int p1), .val (.long v2), .second, .unset, .unset, .unset, .unset, .unset, .unset, .unset, .unset, .unset, .unset] [])) t → Steps p.tables e below G t := fun t k => hG ▸ castTop (ef_rm11 m a1 p1 v2) k
  obtain ⟨Es0, Fw0, Fm0, Fp0, ⟨cp0, Ap0, Sp0, Hp0⟩, HA0, inj0⟩ := id S0
  have hw1 : 1 ≤ w.toNatClampNeg := by have := own_nn (show 0 ≤ w.toInt by omega); omega
  have hw64 : w.toNatClampNeg ≤ 64 := by have := own_nn (show 0 ≤ w.toInt by omega); omega
  have ok1 := hok _ (own_in1 his hw1)
  have hni := own_nn hi.1
  have K1 : ∀ t, Steps p.tables e below (s₁.setTop (mkF m 1 #[.val (.ref a1), .val (.int p1), .val (.long v2), .second, .unset, .unset, .unset, .unset, .unset, .unset, .unset, .unset, .unset, .unset] [(.ref a1)])) t → Steps p.tables e below G t := by
    intro t k
    refine pre0 t ?_
    show Steps p.tables e below (s₁.setTop (mkF m 0 #[.val (.ref a1), .val (.int p1), .val (.long v2), .second, .unset, .unset, .unset, .unset, .unset, .unset, .unset, .unset, .unset, .unset] [])) _
    refine XS.aloadN X0.here hx rfl (hb hby d11_0) rfl rfl ?_
    show Steps p.tables e below (s₁.setTop (mkF m 1 #[.val (.ref a1), .val (.int p1), .val (.long v2), .second, .unset, .unset, .unset, .unset, .unset, .unset, .unset, .unset, .unset, .unset] [(.ref a1)])) _
    exact k
  obtain ⟨T2, X2, e2, st2⟩ := getF X0 hx hZ hown (host := "") (Or.inl (hw _ (List.mem_of_getElem? (i := 33) rfl))) Via.refl e0 Fw0 (g := (mkF m 1 #[.val (.ref a1), .val (.int p1), .val (.long v2), .second, .unset, .unset, .unset, .unset, .unset, .unset, .unset, .unset, .unset, .unset] [(.ref a1)])) rfl rfl (hb hby d11_1)
  have K3 : ∀ t, Steps p.tables e below (T2.setTop (mkF m 4 #[.val (.ref a1), .val (.int p1), .val (.long v2), .second, .unset, .unset, .unset, .unset, .unset, .unset, .unset, .unset, .unset, .unset] [(.int w)])) t → Steps p.tables e below G t := fun t k => K1 t (st2 t k)
  have K4 : ∀ t, Steps p.tables e below (T2.setTop (mkF m 6 #[.val (.ref a1), .val (.int p1), .val (.long v2), .second, .unset, .unset, .unset, .unset, .unset, .unset, .unset, .unset, .unset, .unset] [(.int (64 : Int32)), (.int w)])) t → Steps p.tables e below G t := by
    intro t k
    refine K3 t ?_
    show Steps p.tables e below (T2.setTop (mkF m 4 #[.val (.ref a1), .val (.int p1), .val (.long v2), .second, .unset, .unset, .unset, .unset, .unset, .unset, .unset, .unset, .unset, .unset] [(.int w)])) _
    refine XS.bipush X2.here hx rfl (hb hby d11_4) ?_
    show Steps p.tables e below (T2.setTop (mkF m 6 #[.val (.ref a1), .val (.int p1), .val (.long v2), .second, .unset, .unset, .unset, .unset, .unset, .unset, .unset, .unset, .unset, .unset] [(.int (64 : Int32)), (.int w)])) _
    exact k
  by_cases hc5 : w = (64 : Int32)
  · have K6 : ∀ t, Steps p.tables e below (T2.setTop (mkF m 9 #[.val (.ref a1), .val (.int p1), .val (.long v2), .second, .unset, .unset, .unset, .unset, .unset, .unset, .unset, .unset, .unset, .unset] [])) t → Steps p.tables e below G t := by
      intro t k
      refine K4 t ?_
      show Steps p.tables e below (T2.setTop (mkF m 6 #[.val (.ref a1), .val (.int p1), .val (.long v2), .second, .unset, .unset, .unset, .unset, .unset, .unset, .unset, .unset, .unset, .unset] [(.int (64 : Int32)), (.int w)])) _
      refine XS.icmpNo X2.here hx rfl (hb hby d11_6) rfl (teq hc5).2 ?_
      show Steps p.tables e below (T2.setTop (mkF m 9 #[.val (.ref a1), .val (.int p1), .val (.long v2), .second, .unset, .unset, .unset, .unset, .unset, .unset, .unset, .unset, .unset, .unset] [])) _
      exact k
    have hw' : w.toNatClampNeg = 64 := by rw [hc5]; rfl
    have ok6 := hok p1.toNatClampNeg (by rw [hw']; omega)
    have hj1 := own_pgi hi
    have hj2 := own_ixi hi
    have K7 : ∀ t, Steps p.tables e below (T2.setTop (mkF m 10 #[.val (.ref a1), .val (.int p1), .val (.long v2), .second, .unset, .unset, .unset, .unset, .unset, .unset, .unset, .unset, .unset, .unset] [(.ref a1)])) t → Steps p.tables e below G t := by
      intro t k
      refine K6 t ?_
      show Steps p.tables e below (T2.setTop (mkF m 9 #[.val (.ref a1), .val (.int p1), .val (.long v2), .second, .unset, .unset, .unset, .unset, .unset, .unset, .unset, .unset, .unset, .unset] [])) _
      refine XS.aloadN X2.here hx rfl (hb hby d11_9) rfl rfl ?_
      show Steps p.tables e below (T2.setTop (mkF m 10 #[.val (.ref a1), .val (.int p1), .val (.long v2), .second, .unset, .unset, .unset, .unset, .unset, .unset, .unset, .unset, .unset, .unset] [(.ref a1)])) _
      exact k
    obtain ⟨T8, X8, e8, st8⟩ := getF X2 hx hZ hown (host := "") (Or.inl (hw _ (List.mem_of_getElem? (i := 46) rfl))) Via.refl e2 Fp0 (g := (mkF m 10 #[.val (.ref a1), .val (.int p1), .val (.long v2), .second, .unset, .unset, .unset, .unset, .unset, .unset, .unset, .unset, .unset, .unset] [(.ref a1)])) rfl rfl (hb hby d11_10)
    have K9 : ∀ t, Steps p.tables e below (T8.setTop (mkF m 13 #[.val (.ref a1), .val (.int p1), .val (.long v2), .second, .unset, .unset, .unset, .unset, .unset, .unset, .unset, .unset, .unset, .unset] [(.ref ps)])) t → Steps p.tables e below G t := fun t k => K7 t (st8 t k)
    have K10 : ∀ t, Steps p.tables e below (T8.setTop (mkF m 17 #[.val (.ref a1), .val (.int p1), .val (.long v2), .second, .unset, .unset, .unset, .unset, .unset, .unset, .unset, .unset, .unset, .unset] [(.int ((p1.toUInt32 >>> ((13 : Int32) &&& 31).toUInt32).toInt32)), (.ref ps)])) t → Steps p.tables e below G t := by
      intro t k
      refine K9 t ?_
      show Steps p.tables e below (T8.setTop (mkF m 13 #[.val (.ref a1), .val (.int p1), .val (.long v2), .second, .unset, .unset, .unset, .unset, .unset, .unset, .unset, .unset, .unset, .unset] [(.ref ps)])) _
      refine XS.iloadN X8.here hx rfl (hb hby d11_13) rfl ?_
      show Steps p.tables e below (T8.setTop (mkF m 14 #[.val (.ref a1), .val (.int p1), .val (.long v2), .second, .unset, .unset, .unset, .unset, .unset, .unset, .unset, .unset, .unset, .unset] [(.int p1), (.ref ps)])) _
      refine XS.bipush X8.here hx rfl (hb hby d11_14) ?_
      show Steps p.tables e below (T8.setTop (mkF m 16 #[.val (.ref a1), .val (.int p1), .val (.long v2), .second, .unset, .unset, .unset, .unset, .unset, .unset, .unset, .unset, .unset, .unset] [(.int (13 : Int32)), (.int p1), (.ref ps)])) _
      refine XS.iushr X8.here hx rfl (hb hby d11_16) rfl ?_
      show Steps p.tables e below (T8.setTop (mkF m 17 #[.val (.ref a1), .val (.int p1), .val (.long v2), .second, .unset, .unset, .unset, .unset, .unset, .unset, .unset, .unset, .unset, .unset] [(.int ((p1.toUInt32 >>> ((13 : Int32) &&& 31).toUInt32).toInt32)), (.ref ps)])) _
      exact k
    obtain ⟨hin11, hjn11⟩ := own_inp (j := ((p1.toUInt32 >>> ((13 : Int32) &&& 31).toUInt32).toInt32)) (q := p1.toNatClampNeg / 8192) hj1 ok6.1 cp0 Sp0
    have hat11 : cp0.slots[(((p1.toUInt32 >>> ((13 : Int32) &&& 31).toUInt32).toInt32)).toNatClampNeg]? = some (.ref (P (p1.toNatClampNeg / 8192))) := by rw [hjn11]; exact Hp0 _ ok6.1
    have K12 : ∀ t, Steps p.tables e below (T8.setTop (mkF m 18 #[.val (.ref a1), .val (.int p1), .val (.long v2), .second, .unset, .unset, .unset, .unset, .unset, .unset, .unset, .unset, .unset, .unset] [(.ref (P (p1.toNatClampNeg / 8192)))])) t → Steps p.tables e below G t := fun t k => K10 t (X8.aaload hx (j := ((p1.toUInt32 >>> ((13 : Int32) &&& 31).toUInt32).toInt32)) (v := .ref (P (p1.toNatClampNeg / 8192))) (by rw [e8]; exact Ap0.1) (State.isArrayOf_alike hZ.alike Ap0.2.1) rfl Ap0.2.2 hin11 hat11 (g := (mkF m 17 #[.val (.ref a1), .val (.int p1), .val (.long v2), .second, .unset, .unset, .unset, .unset, .unset, .unset, .unset, .unset, .unset, .unset] [(.int ((p1.toUInt32 >>> ((13 : Int32) &&& 31).toUInt32).toInt32)), (.ref ps)])) rfl rfl (hb hby d11_17) _ k)
    have K13 : ∀ t, Steps p.tables e below (T8.setTop (mkF m 24 #[.val (.ref a1), .val (.int p1), .val (.long v2), .second, .unset, .unset, .unset, .unset, .unset, .unset, .unset, .unset, .unset, .unset] [(.long v2), (.int (p1 &&& (8191 : Int32))), (.ref (P (p1.toNatClampNeg / 8192)))])) t → Steps p.tables e below G t := by
      intro t k
      refine K12 t ?_
      show Steps p.tables e below (T8.setTop (mkF m 18 #[.val (.ref a1), .val (.int p1), .val (.long v2), .second, .unset, .unset, .unset, .unset, .unset, .unset, .unset, .unset, .unset, .unset] [(.ref (P (p1.toNatClampNeg / 8192)))])) _
      refine XS.iloadN X8.here hx rfl (hb hby d11_18) rfl ?_
      show Steps p.tables e below (T8.setTop (mkF m 19 #[.val (.ref a1), .val (.int p1), .val (.long v2), .second, .unset, .unset, .unset, .unset, .unset, .unset, .unset, .unset, .unset, .unset] [(.int p1), (.ref (P (p1.toNatClampNeg / 8192)))])) _
      refine XS.sipush X8.here hx rfl (hb hby d11_19) ?_
      show Steps p.tables e below (T8.setTop (mkF m 22 #[.val (.ref a1), .val (.int p1), .val (.long v2), .second, .unset, .unset, .unset, .unset, .unset, .unset, .unset, .unset, .unset, .unset] [(.int (8191 : Int32)), (.int p1), (.ref (P (p1.toNatClampNeg / 8192)))])) _
      refine XS.iand X8.here hx rfl (hb hby d11_22) rfl ?_
      show Steps p.tables e below (T8.setTop (mkF m 23 #[.val (.ref a1), .val (.int p1), .val (.long v2), .second, .unset, .unset, .unset, .unset, .unset, .unset, .unset, .unset, .unset, .unset] [(.int (p1 &&& (8191 : Int32))), (.ref (P (p1.toNatClampNeg / 8192)))])) _
      refine XS.lloadN X8.here hx rfl (hb hby d11_23) rfl ?_
      show Steps p.tables e below (T8.setTop (mkF m 24 #[.val (.ref a1), .val (.int p1), .val (.long v2), .second, .unset, .unset, .unset, .unset, .unset, .unset, .unset, .unset, .unset, .unset] [(.long v2), (.int (p1 &&& (8191 : Int32))), (.ref (P (p1.toNatClampNeg / 8192)))])) _
      exact k
    obtain ⟨cl14, Ar14, Sz14, Hv14⟩ := (HA0 _ ok6.1).1
    obtain ⟨hin14, hjn14⟩ := own_inp (j := (p1 &&& (8191 : Int32))) (q := (p1.toNatClampNeg) % 8192) hj2 ok6.2 cl14 Sz14
    obtain ⟨T14, h14, X14, e14, W14, st14⟩ := stJ X8 hx hZ e8 Ar14 (j := (p1 &&& (8191 : Int32))) hin14 (g := (mkF m 24 #[.val (.ref a1), .val (.int p1), .val (.long v2), .second, .unset, .unset, .unset, .unset, .unset, .unset, .unset, .unset, .unset, .unset] [(.long v2), (.int (p1 &&& (8191 : Int32))), (.ref (P (p1.toNatClampNeg / 8192)))])) rfl rfl (hb hby d11_24)
    rw [hjn14] at W14
    have S14 := own_St_wr S0 ok6.1 (Nat.mod_lt _ (by decide)) W14
    rw [Nat.div_add_mod] at S14
    obtain ⟨W1, h_W1⟩ : ∃ F : Nat → Int64, F = (fun n => if n = p1.toNatClampNeg then v2 else W n) := ⟨_, rfl⟩
    rw [← h_W1] at S14
    have N14 := Fr.snoc X14 N0 (HA0 _ ok6.1).2.2.2.1
    have K15 : ∀ t, Steps p.tables e below (T14.setTop (mkF m 25 #[.val (.ref a1), .val (.int p1), .val (.long v2), .second, .unset, .unset, .unset, .unset, .unset, .unset, .unset, .unset, .unset, .unset] [])) t → Steps p.tables e below G t := fun t k => K13 t (st14 t k)
    have Z16 : n0 ≤ h14.size := Nat.le_trans Z0 (Keep.of_wr W14).1
    obtain ⟨Es14, Fw14, Fm14, Fp14, ⟨cp14, Ap14, Sp14, Hp14⟩, HA14, inj14⟩ := id S14
    obtain ⟨fs, hr, hrun, hended, hW, hsame⟩ := X14.leave (v := none) (fun _ => rfl)
    have KF := K15
    rw [hG] at KF
    refine ⟨_, _, KF _ ?_, hrun, hended, _, _, rfl, ?_, ⟨_, rfl⟩, hW, hsame.mono (by decide) (by decide)⟩
    · show Steps p.tables e below (T14.setTop (mkF m 25 #[.val (.ref a1), .val (.int p1), .val (.long v2), .second, .unset, .unset, .unset, .unset, .unset, .unset, .unset, .unset, .unset, .unset] [])) _
      exact X14.returnOut hx Bd.returns (hb hby d11_25) hr
    · show Q11 Z a1 ps np P ln w mk W p1 v2 h0 n0 _ T14.heap _
      rw [e14]
      refine ⟨W1, rfl, N14, S14, Z16, ?_⟩
      rw [hw', own_set64]
      funext n; rw [h_W1]; show (if n = p1.toNatClampNeg then v2 else W n).toBitVec = _; split <;> rfl
  · have K17 : ∀ t, Steps p.tables e below (T2.setTop (mkF m 29 #[.val (.ref a1), .val (.int p1), .val (.long v2), .second, .unset, .unset, .unset, .unset, .unset, .unset, .unset, .unset, .unset, .unset] [(.ref a1), (.long (p1.toInt64))])) t → Steps p.tables e below G t := by
      intro t k
      refine K4 t ?_
      show Steps p.tables e below (T2.setTop (mkF m 6 #[.val (.ref a1), .val (.int p1), .val (.long v2), .second, .unset, .unset, .unset, .unset, .unset, .unset, .unset, .unset, .unset, .unset] [(.int (64 : Int32)), (.int w)])) _
      refine XS.icmpYes X2.here hx rfl (pc0 := 6) (pc' := 26) rfl (hb hby d11_6) rfl (feq hc5).2 (by decide) (by decide) ?_
      show Steps p.tables e below (T2.setTop (mkF m 26 #[.val (.ref a1), .val (.int p1), .val (.long v2), .second, .unset, .unset, .unset, .unset, .unset, .unset, .unset, .unset, .unset, .unset] [])) _
      refine XS.iloadN X2.here hx rfl (hb hby d11_26) rfl ?_
      show Steps p.tables e below (T2.setTop (mkF m 27 #[.val (.ref a1), .val (.int p1), .val (.long v2), .second, .unset, .unset, .unset, .unset, .unset, .unset, .unset, .unset, .unset, .unset] [(.int p1)])) _
      refine XS.i2l X2.here hx rfl (hb hby d11_27) rfl ?_
      show Steps p.tables e below (T2.setTop (mkF m 28 #[.val (.ref a1), .val (.int p1), .val (.long v2), .second, .unset, .unset, .unset, .unset, .unset, .unset, .unset, .unset, .unset, .unset] [(.long (p1.toInt64))])) _
      refine XS.aloadN X2.here hx rfl (hb hby d11_28) rfl rfl ?_
      show Steps p.tables e below (T2.setTop (mkF m 29 #[.val (.ref a1), .val (.int p1), .val (.long v2), .second, .unset, .unset, .unset, .unset, .unset, .unset, .unset, .unset, .unset, .unset] [(.ref a1), (.long (p1.toInt64))])) _
      exact k
    obtain ⟨T18, X18, e18, st18⟩ := getF X2 hx hZ hown (host := "") (Or.inl (hw _ (List.mem_of_getElem? (i := 33) rfl))) Via.refl e2 Fw0 (g := (mkF m 29 #[.val (.ref a1), .val (.int p1), .val (.long v2), .second, .unset, .unset, .unset, .unset, .unset, .unset, .unset, .unset, .unset, .unset] [(.ref a1), (.long (p1.toInt64))])) rfl rfl (hb hby d11_29)
    have K19 : ∀ t, Steps p.tables e below (T18.setTop (mkF m 32 #[.val (.ref a1), .val (.int p1), .val (.long v2), .second, .unset, .unset, .unset, .unset, .unset, .unset, .unset, .unset, .unset, .unset] [(.int w), (.long (p1.toInt64))])) t → Steps p.tables e below G t := fun t k => K17 t (st18 t k)
    have K20 : ∀ t, Steps p.tables e below (T18.setTop (mkF m 34 #[.val (.ref a1), .val (.int p1), .val (.long v2), .second, .unset, .unset, .unset, .unset, .unset, .unset, .unset, .unset, .unset, .unset] [(.long ((p1.toInt64) * (w.toInt64)))])) t → Steps p.tables e below G t := by
      intro t k
      refine K19 t ?_
      show Steps p.tables e below (T18.setTop (mkF m 32 #[.val (.ref a1), .val (.int p1), .val (.long v2), .second, .unset, .unset, .unset, .unset, .unset, .unset, .unset, .unset, .unset, .unset] [(.int w), (.long (p1.toInt64))])) _
      refine XS.i2l X18.here hx rfl (hb hby d11_32) rfl ?_
      show Steps p.tables e below (T18.setTop (mkF m 33 #[.val (.ref a1), .val (.int p1), .val (.long v2), .second, .unset, .unset, .unset, .unset, .unset, .unset, .unset, .unset, .unset, .unset] [(.long (w.toInt64)), (.long (p1.toInt64))])) _
      refine XS.lmul X18.here hx rfl (hb hby d11_33) rfl ?_
      show Steps p.tables e below (T18.setTop (mkF m 34 #[.val (.ref a1), .val (.int p1), .val (.long v2), .second, .unset, .unset, .unset, .unset, .unset, .unset, .unset, .unset, .unset, .unset] [(.long ((p1.toInt64) * (w.toInt64)))])) _
      exact k
    obtain ⟨bt, h_bt⟩ : ∃ z : Int64, z = ((p1.toInt64) * (w.toInt64)) := ⟨_, rfl⟩
    have K21 : ∀ t, Steps p.tables e below (T18.setTop (mkF m 34 #[.val (.ref a1), .val (.int p1), .val (.long v2), .second, .unset, .unset, .unset, .unset, .unset, .unset, .unset, .unset, .unset, .unset] [(.long bt)])) t → Steps p.tables e below G t := by rw [h_bt]; exact K20
    have K22 : ∀ t, Steps p.tables e below (T18.setTop (mkF m 42 #[.val (.ref a1), .val (.int p1), .val (.long v2), .second, .val (.long bt), .second, .unset, .unset, .unset, .unset, .unset, .unset, .unset, .unset] [(.long (bt / (64 : Int64)))])) t → Steps p.tables e below G t := by
      intro t k
      refine K21 t ?_
      show Steps p.tables e below (T18.setTop (mkF m 34 #[.val (.ref a1), .val (.int p1), .val (.long v2), .second, .unset, .unset, .unset, .unset, .unset, .unset, .unset, .unset, .unset, .unset] [(.long bt)])) _
      refine XS.lstore X18.here hx rfl (hb hby d11_34) rfl (l' := #[.val (.ref a1), .val (.int p1), .val (.long v2), .second, .val (.long bt), .second, .unset, .unset, .unset, .unset, .unset, .unset, .unset, .unset]) rfl ?_
      show Steps p.tables e below (T18.setTop (mkF m 36 #[.val (.ref a1), .val (.int p1), .val (.long v2), .second, .val (.long bt), .second, .unset, .unset, .unset, .unset, .unset, .unset, .unset, .unset] [])) _
      refine XS.lload X18.here hx rfl (hb hby d11_36) rfl ?_
      show Steps p.tables e below (T18.setTop (mkF m 38 #[.val (.ref a1), .val (.int p1), .val (.long v2), .second, .val (.long bt), .second, .unset, .unset, .unset, .unset, .unset, .unset, .unset, .unset] [(.long bt)])) _
      refine X18.ldc2Long hx hown (mvT hZ (hw _ (List.mem_of_getElem? (i := 42) rfl))) (g := (mkF m 38 #[.val (.ref a1), .val (.int p1), .val (.long v2), .second, .val (.long bt), .second, .unset, .unset, .unset, .unset, .unset, .unset, .unset, .unset] [(.long bt)])) rfl (hb hby d11_38) _ ?_
      show Steps p.tables e below (T18.setTop (mkF m 41 #[.val (.ref a1), .val (.int p1), .val (.long v2), .second, .val (.long bt), .second, .unset, .unset, .unset, .unset, .unset, .unset, .unset, .unset] [(.long (64 : Int64)), (.long bt)])) _
      refine XS.ldiv X18.here hx rfl (hb hby d11_41) rfl (by decide) ?_
      show Steps p.tables e below (T18.setTop (mkF m 42 #[.val (.ref a1), .val (.int p1), .val (.long v2), .second, .val (.long bt), .second, .unset, .unset, .unset, .unset, .unset, .unset, .unset, .unset] [(.long (bt / (64 : Int64)))])) _
      exact k
    obtain ⟨wd, h_wd⟩ : ∃ z : Int64, z = (bt / (64 : Int64)) := ⟨_, rfl⟩
    have K23 : ∀ t, Steps p.tables e below (T18.setTop (mkF m 42 #[.val (.ref a1), .val (.int p1), .val (.long v2), .second, .val (.long bt), .second, .unset, .unset, .unset, .unset, .unset, .unset, .unset, .unset] [(.long wd)])) t → Steps p.tables e below G t := by rw [h_wd]; exact K22
    have K24 : ∀ t, Steps p.tables e below (T18.setTop (mkF m 51 #[.val (.ref a1), .val (.int p1), .val (.long v2), .second, .val (.long bt), .second, .val (.long wd), .second, .unset, .unset, .unset, .unset, .unset, .unset] [(.int ((bt % (64 : Int64)).toInt32))])) t → Steps p.tables e below G t := by
      intro t k
      refine K23 t ?_
      show Steps p.tables e below (T18.setTop (mkF m 42 #[.val (.ref a1), .val (.int p1), .val (.long v2), .second, .val (.long bt), .second, .unset, .unset, .unset, .unset, .unset, .unset, .unset, .unset] [(.long wd)])) _
      refine XS.lstore X18.here hx rfl (hb hby d11_42) rfl (l' := #[.val (.ref a1), .val (.int p1), .val (.long v2), .second, .val (.long bt), .second, .val (.long wd), .second, .unset, .unset, .unset, .unset, .unset, .unset]) rfl ?_
      show Steps p.tables e below (T18.setTop (mkF m 44 #[.val (.ref a1), .val (.int p1), .val (.long v2), .second, .val (.long bt), .second, .val (.long wd), .second, .unset, .unset, .unset, .unset, .unset, .unset] [])) _
      refine XS.lload X18.here hx rfl (hb hby d11_44) rfl ?_
      show Steps p.tables e below (T18.setTop (mkF m 46 #[.val (.ref a1), .val (.int p1), .val (.long v2), .second, .val (.long bt), .second, .val (.long wd), .second, .unset, .unset, .unset, .unset, .unset, .unset] [(.long bt)])) _
      refine X18.ldc2Long hx hown (mvT hZ (hw _ (List.mem_of_getElem? (i := 42) rfl))) (g := (mkF m 46 #[.val (.ref a1), .val (.int p1), .val (.long v2), .second, .val (.long bt), .second, .val (.long wd), .second, .unset, .unset, .unset, .unset, .unset, .unset] [(.long bt)])) rfl (hb hby d11_46) _ ?_
      show Steps p.tables e below (T18.setTop (mkF m 49 #[.val (.ref a1), .val (.int p1), .val (.long v2), .second, .val (.long bt), .second, .val (.long wd), .second, .unset, .unset, .unset, .unset, .unset, .unset] [(.long (64 : Int64)), (.long bt)])) _
      refine own_lremM X18 hx rfl (hb hby d11_49) rfl (by decide) ?_
      show Steps p.tables e below (T18.setTop (mkF m 50 #[.val (.ref a1), .val (.int p1), .val (.long v2), .second, .val (.long bt), .second, .val (.long wd), .second, .unset, .unset, .unset, .unset, .unset, .unset] [(.long (bt % (64 : Int64)))])) _
      refine XS.l2i X18.here hx rfl (hb hby d11_50) rfl ?_
      show Steps p.tables e below (T18.setTop (mkF m 51 #[.val (.ref a1), .val (.int p1), .val (.long v2), .second, .val (.long bt), .second, .val (.long wd), .second, .unset, .unset, .unset, .unset, .unset, .unset] [(.int ((bt % (64 : Int64)).toInt32))])) _
      exact k
    obtain ⟨sh, h_sh⟩ : ∃ z : Int32, z = ((bt % (64 : Int64)).toInt32) := ⟨_, rfl⟩
    have K25 : ∀ t, Steps p.tables e below (T18.setTop (mkF m 51 #[.val (.ref a1), .val (.int p1), .val (.long v2), .second, .val (.long bt), .second, .val (.long wd), .second, .unset, .unset, .unset, .unset, .unset, .unset] [(.int sh)])) t → Steps p.tables e below G t := by rw [h_sh]; exact K24
    have K26 : ∀ t, Steps p.tables e below (T18.setTop (mkF m 53 #[.val (.ref a1), .val (.int p1), .val (.long v2), .second, .val (.long bt), .second, .val (.long wd), .second, .val (.int sh), .unset, .unset, .unset, .unset, .unset] [])) t → Steps p.tables e below G t := by
      intro t k
      refine K25 t ?_
      show Steps p.tables e below (T18.setTop (mkF m 51 #[.val (.ref a1), .val (.int p1), .val (.long v2), .second, .val (.long bt), .second, .val (.long wd), .second, .unset, .unset, .unset, .unset, .unset, .unset] [(.int sh)])) _
      refine XS.istore X18.here hx rfl (hb hby d11_51) rfl (l' := #[.val (.ref a1), .val (.int p1), .val (.long v2), .second, .val (.long bt), .second, .val (.long wd), .second, .val (.int sh), .unset, .unset, .unset, .unset, .unset]) rfl ?_
      show Steps p.tables e below (T18.setTop (mkF m 53 #[.val (.ref a1), .val (.int p1), .val (.long v2), .second, .val (.long bt), .second, .val (.long wd), .second, .val (.int sh), .unset, .unset, .unset, .unset, .unset] [])) _
      exact k
    obtain ⟨eb, ed, es⟩ := own_pos hi hwd h_bt h_wd h_sh
    have hkb : p1.toNatClampNeg * w.toNatClampNeg / 64 < 1048576 := by have : p1.toNatClampNeg * w.toNatClampNeg ≤ 1048575 * 64 := Nat.mul_le_mul (by omega) hw64; omega
    have hj1 := own_pg ed (by omega)
    have hj2 := own_ix ed (by omega)
    have K27 : ∀ t, Steps p.tables e below (T18.setTop (mkF m 54 #[.val (.ref a1), .val (.int p1), .val (.long v2), .second, .val (.long bt), .second, .val (.long wd), .second, .val (.int sh), .unset, .unset, .unset, .unset, .unset] [(.ref a1)])) t → Steps p.tables e below G t := by
      intro t k
      refine K26 t ?_
      show Steps p.tables e below (T18.setTop (mkF m 53 #[.val (.ref a1), .val (.int p1), .val (.long v2), .second, .val (.long bt), .second, .val (.long wd), .second, .val (.int sh), .unset, .unset, .unset, .unset, .unset] [])) _
      refine XS.aloadN X18.here hx rfl (hb hby d11_53) rfl rfl ?_
      show Steps p.tables e below (T18.setTop (mkF m 54 #[.val (.ref a1), .val (.int p1), .val (.long v2), .second, .val (.long bt), .second, .val (.long wd), .second, .val (.int sh), .unset, .unset, .unset, .unset, .unset] [(.ref a1)])) _
      exact k
    obtain ⟨T28, X28, e28, st28⟩ := getF X18 hx hZ hown (host := "") (Or.inl (hw _ (List.mem_of_getElem? (i := 46) rfl))) Via.refl e18 Fp0 (g := (mkF m 54 #[.val (.ref a1), .val (.int p1), .val (.long v2), .second, .val (.long bt), .second, .val (.long wd), .second, .val (.int sh), .unset, .unset, .unset, .unset, .unset] [(.ref a1)])) rfl rfl (hb hby d11_54)
    have K29 : ∀ t, Steps p.tables e below (T28.setTop (mkF m 57 #[.val (.ref a1), .val (.int p1), .val (.long v2), .second, .val (.long bt), .second, .val (.long wd), .second, .val (.int sh), .unset, .unset, .unset, .unset, .unset] [(.ref ps)])) t → Steps p.tables e below G t := fun t k => K27 t (st28 t k)
    have K30 : ∀ t, Steps p.tables e below (T28.setTop (mkF m 63 #[.val (.ref a1), .val (.int p1), .val (.long v2), .second, .val (.long bt), .second, .val (.long wd), .second, .val (.int sh), .unset, .unset, .unset, .unset, .unset] [(.int (((wd.toUInt64 >>> ((13 : Int32) &&& 0x3f).toInt64.toUInt64).toInt64).toInt32)), (.ref ps)])) t → Steps p.tables e below G t := by
      intro t k
      refine K29 t ?_
      show Steps p.tables e below (T28.setTop (mkF m 57 #[.val (.ref a1), .val (.int p1), .val (.long v2), .second, .val (.long bt), .second, .val (.long wd), .second, .val (.int sh), .unset, .unset, .unset, .unset, .unset] [(.ref ps)])) _
      refine XS.lload X28.here hx rfl (hb hby d11_57) rfl ?_
      show Steps p.tables e below (T28.setTop (mkF m 59 #[.val (.ref a1), .val (.int p1), .val (.long v2), .second, .val (.long bt), .second, .val (.long wd), .second, .val (.int sh), .unset, .unset, .unset, .unset, .unset] [(.long wd), (.ref ps)])) _
      refine XS.bipush X28.here hx rfl (hb hby d11_59) ?_
      show Steps p.tables e below (T28.setTop (mkF m 61 #[.val (.ref a1), .val (.int p1), .val (.long v2), .second, .val (.long bt), .second, .val (.long wd), .second, .val (.int sh), .unset, .unset, .unset, .unset, .unset] [(.int (13 : Int32)), (.long wd), (.ref ps)])) _
      refine XS.lushr X28.here hx rfl (hb hby d11_61) rfl ?_
      show Steps p.tables e below (T28.setTop (mkF m 62 #[.val (.ref a1), .val (.int p1), .val (.long v2), .second, .val (.long bt), .second, .val (.long wd), .second, .val (.int sh), .unset, .unset, .unset, .unset, .unset] [(.long ((wd.toUInt64 >>> ((13 : Int32) &&& 0x3f).toInt64.toUInt64).toInt64)), (.ref ps)])) _
      refine XS.l2i X28.here hx rfl (hb hby d11_62) rfl ?_
      show Steps p.tables e below (T28.setTop (mkF m 63 #[.val (.ref a1), .val (.int p1), .val (.long v2), .second, .val (.long bt), .second, .val (.long wd), .second, .val (.int sh), .unset, .unset, .unset, .unset, .unset] [(.int (((wd.toUInt64 >>> ((13 : Int32) &&& 0x3f).toInt64.toUInt64).toInt64).toInt32)), (.ref ps)])) _
      exact k
    obtain ⟨hin31, hjn31⟩ := own_inp (j := (((wd.toUInt64 >>> ((13 : Int32) &&& 0x3f).toInt64.toUInt64).toInt64).toInt32)) (q := p1.toNatClampNeg * w.toNatClampNeg / 64 / 8192) hj1 ok1.1 cp0 Sp0
    have hat31 : cp0.slots[((((wd.toUInt64 >>> ((13 : Int32) &&& 0x3f).toInt64.toUInt64).toInt64).toInt32)).toNatClampNeg]? = some (.ref (P (p1.toNatClampNeg * w.toNatClampNeg / 64 / 8192))) := by rw [hjn31]; exact Hp0 _ ok1.1
    have K32 : ∀ t, Steps p.tables e below (T28.setTop (mkF m 64 #[.val (.ref a1), .val (.int p1), .val (.long v2), .second, .val (.long bt), .second, .val (.long wd), .second, .val (.int sh), .unset, .unset, .unset, .unset, .unset] [(.ref (P (p1.toNatClampNeg * w.toNatClampNeg / 64 / 8192)))])) t → Steps p.tables e below G t := fun t k => K30 t (X28.aaload hx (j := (((wd.toUInt64 >>> ((13 : Int32) &&& 0x3f).toInt64.toUInt64).toInt64).toInt32)) (v := .ref (P (p1.toNatClampNeg * w.toNatClampNeg / 64 / 8192))) (by rw [e28]; exact Ap0.1) (State.isArrayOf_alike hZ.alike Ap0.2.1) rfl Ap0.2.2 hin31 hat31 (g := (mkF m 63 #[.val (.ref a1), .val (.int p1), .val (.long v2), .second, .val (.long bt), .second, .val (.long wd), .second, .val (.int sh), .unset, .unset, .unset, .unset, .unset] [(.int (((wd.toUInt64 >>> ((13 : Int32) &&& 0x3f).toInt64.toUInt64).toInt64).toInt32)), (.ref ps)])) rfl rfl (hb hby d11_63) _ k)
    have K33 : ∀ t, Steps p.tables e below (T28.setTop (mkF m 83 #[.val (.ref a1), .val (.int p1), .val (.long v2), .second, .val (.long bt), .second, .val (.long wd), .second, .val (.int sh), .val (.ref (P (p1.toNatClampNeg * w.toNatClampNeg / 64 / 8192))), .val (.int ((wd.toInt32) &&& (8191 : Int32))), .unset, .unset, .unset] [(.int ((wd.toInt32) &&& (8191 : Int32))), (.ref (P (p1.toNatClampNeg * w.toNatClampNeg / 64 / 8192))), (.int ((wd.toInt32) &&& (8191 : Int32))), (.ref (P (p1.toNatClampNeg * w.toNatClampNeg / 64 / 8192)))])) t → Steps p.tables e below G t := by
      intro t k
      refine K32 t ?_
      show Steps p.tables e below (T28.setTop (mkF m 64 #[.val (.ref a1), .val (.int p1), .val (.long v2), .second, .val (.long bt), .second, .val (.long wd), .second, .val (.int sh), .unset, .unset, .unset, .unset, .unset] [(.ref (P (p1.toNatClampNeg * w.toNatClampNeg / 64 / 8192)))])) _
      refine XS.astore X28.here hx rfl (hb hby d11_64) rfl rfl (l' := #[.val (.ref a1), .val (.int p1), .val (.long v2), .second, .val (.long bt), .second, .val (.long wd), .second, .val (.int sh), .val (.ref (P (p1.toNatClampNeg * w.toNatClampNeg / 64 / 8192))), .unset, .unset, .unset, .unset]) rfl ?_
      show Steps p.tables e below (T28.setTop (mkF m 66 #[.val (.ref a1), .val (.int p1), .val (.long v2), .second, .val (.long bt), .second, .val (.long wd), .second, .val (.int sh), .val (.ref (P (p1.toNatClampNeg * w.toNatClampNeg / 64 / 8192))), .unset, .unset, .unset, .unset] [])) _
      refine XS.lload X28.here hx rfl (hb hby d11_66) rfl ?_
      show Steps p.tables e below (T28.setTop (mkF m 68 #[.val (.ref a1), .val (.int p1), .val (.long v2), .second, .val (.long bt), .second, .val (.long wd), .second, .val (.int sh), .val (.ref (P (p1.toNatClampNeg * w.toNatClampNeg / 64 / 8192))), .unset, .unset, .unset, .unset] [(.long wd)])) _
      refine XS.l2i X28.here hx rfl (hb hby d11_68) rfl ?_
      show Steps p.tables e below (T28.setTop (mkF m 69 #[.val (.ref a1), .val (.int p1), .val (.long v2), .second, .val (.long bt), .second, .val (.long wd), .second, .val (.int sh), .val (.ref (P (p1.toNatClampNeg * w.toNatClampNeg / 64 / 8192))), .unset, .unset, .unset, .unset] [(.int (wd.toInt32))])) _
      refine XS.sipush X28.here hx rfl (hb hby d11_69) ?_
      show Steps p.tables e below (T28.setTop (mkF m 72 #[.val (.ref a1), .val (.int p1), .val (.long v2), .second, .val (.long bt), .second, .val (.long wd), .second, .val (.int sh), .val (.ref (P (p1.toNatClampNeg * w.toNatClampNeg / 64 / 8192))), .unset, .unset, .unset, .unset] [(.int (8191 : Int32)), (.int (wd.toInt32))])) _
      refine XS.iand X28.here hx rfl (hb hby d11_72) rfl ?_
      show Steps p.tables e below (T28.setTop (mkF m 73 #[.val (.ref a1), .val (.int p1), .val (.long v2), .second, .val (.long bt), .second, .val (.long wd), .second, .val (.int sh), .val (.ref (P (p1.toNatClampNeg * w.toNatClampNeg / 64 / 8192))), .unset, .unset, .unset, .unset] [(.int ((wd.toInt32) &&& (8191 : Int32)))])) _
      refine XS.istore X28.here hx rfl (hb hby d11_73) rfl (l' := #[.val (.ref a1), .val (.int p1), .val (.long v2), .second, .val (.long bt), .second, .val (.long wd), .second, .val (.int sh), .val (.ref (P (p1.toNatClampNeg * w.toNatClampNeg / 64 / 8192))), .val (.int ((wd.toInt32) &&& (8191 : Int32))), .unset, .unset, .unset]) rfl ?_
      show Steps p.tables e below (T28.setTop (mkF m 75 #[.val (.ref a1), .val (.int p1), .val (.long v2), .second, .val (.long bt), .second, .val (.long wd), .second, .val (.int sh), .val (.ref (P (p1.toNatClampNeg * w.toNatClampNeg / 64 / 8192))), .val (.int ((wd.toInt32) &&& (8191 : Int32))), .unset, .unset, .unset] [])) _
      refine XS.aload X28.here hx rfl (hb hby d11_75) rfl rfl ?_
      show Steps p.tables e below (T28.setTop (mkF m 77 #[.val (.ref a1), .val (.int p1), .val (.long v2), .second, .val (.long bt), .second, .val (.long wd), .second, .val (.int sh), .val (.ref (P (p1.toNatClampNeg * w.toNatClampNeg / 64 / 8192))), .val (.int ((wd.toInt32) &&& (8191 : Int32))), .unset, .unset, .unset] [(.ref (P (p1.toNatClampNeg * w.toNatClampNeg / 64 / 8192)))])) _
      refine XS.iload X28.here hx rfl (hb hby d11_77) rfl ?_
      show Steps p.tables e below (T28.setTop (mkF m 79 #[.val (.ref a1), .val (.int p1), .val (.long v2), .second, .val (.long bt), .second, .val (.long wd), .second, .val (.int sh), .val (.ref (P (p1.toNatClampNeg * w.toNatClampNeg / 64 / 8192))), .val (.int ((wd.toInt32) &&& (8191 : Int32))), .unset, .unset, .unset] [(.int ((wd.toInt32) &&& (8191 : Int32))), (.ref (P (p1.toNatClampNeg * w.toNatClampNeg / 64 / 8192)))])) _
      refine XS.aload X28.here hx rfl (hb hby d11_79) rfl rfl ?_
      show Steps p.tables e below (T28.setTop (mkF m 81 #[.val (.ref a1), .val (.int p1), .val (.long v2), .second, .val (.long bt), .second, .val (.long wd), .second, .val (.int sh), .val (.ref (P (p1.toNatClampNeg * w.toNatClampNeg / 64 / 8192))), .val (.int ((wd.toInt32) &&& (8191 : Int32))), .unset, .unset, .unset] [(.ref (P (p1.toNatClampNeg * w.toNatClampNeg / 64 / 8192))), (.int ((wd.toInt32) &&& (8191 : Int32))), (.ref (P (p1.toNatClampNeg * w.toNatClampNeg / 64 / 8192)))])) _
      refine XS.iload X28.here hx rfl (hb hby d11_81) rfl ?_
      show Steps p.tables e below (T28.setTop (mkF m 83 #[.val (.ref a1), .val (.int p1), .val (.long v2), .second, .val (.long bt), .second, .val (.long wd), .second, .val (.int sh), .val (.ref (P (p1.toNatClampNeg * w.toNatClampNeg / 64 / 8192))), .val (.int ((wd.toInt32) &&& (8191 : Int32))), .unset, .unset, .unset] [(.int ((wd.toInt32) &&& (8191 : Int32))), (.ref (P (p1.toNatClampNeg * w.toNatClampNeg / 64 / 8192))), (.int ((wd.toInt32) &&& (8191 : Int32))), (.ref (P (p1.toNatClampNeg * w.toNatClampNeg / 64 / 8192)))])) _
      exact k
    obtain ⟨cl34, Ar34, Sz34, Hv34⟩ := (HA0 _ ok1.1).1
    obtain ⟨hin34, hjn34⟩ := own_inp (j := ((wd.toInt32) &&& (8191 : Int32))) (q := (p1.toNatClampNeg * w.toNatClampNeg / 64) % 8192) hj2 ok1.2 cl34 Sz34
    have hat34 : cl34.slots[(((wd.toInt32) &&& (8191 : Int32))).toNatClampNeg]? = some (.long (W (p1.toNatClampNeg * w.toNatClampNeg / 64))) := by rw [hjn34, Hv34 _ ok1.2]; show some (Value.long (W (8192 * ((p1.toNatClampNeg * w.toNatClampNeg / 64) / 8192) + (p1.toNatClampNeg * w.toNatClampNeg / 64) % 8192))) = _; rw [Nat.div_add_mod]
    have K35 : ∀ t, Steps p.tables e below (T28.setTop (mkF m 84 #[.val (.ref a1), .val (.int p1), .val (.long v2), .second, .val (.long bt), .second, .val (.long wd), .second, .val (.int sh), .val (.ref (P (p1.toNatClampNeg * w.toNatClampNeg / 64 / 8192))), .val (.int ((wd.toInt32) &&& (8191 : Int32))), .unset, .unset, .unset] [(.long (W (p1.toNatClampNeg * w.toNatClampNeg / 64))), (.int ((wd.toInt32) &&& (8191 : Int32))), (.ref (P (p1.toNatClampNeg * w.toNatClampNeg / 64 / 8192)))])) t → Steps p.tables e below G t := fun t k => K33 t (X28.laload hx (j := ((wd.toInt32) &&& (8191 : Int32))) (v := .long (W (p1.toNatClampNeg * w.toNatClampNeg / 64))) (by rw [e28]; exact Ar34.1) (State.isArrayOf_alike hZ.alike Ar34.2.1) Ar34.2.2 hin34 hat34 (g := (mkF m 83 #[.val (.ref a1), .val (.int p1), .val (.long v2), .second, .val (.long bt), .second, .val (.long wd), .second, .val (.int sh), .val (.ref (P (p1.toNatClampNeg * w.toNatClampNeg / 64 / 8192))), .val (.int ((wd.toInt32) &&& (8191 : Int32))), .unset, .unset, .unset] [(.int ((wd.toInt32) &&& (8191 : Int32))), (.ref (P (p1.toNatClampNeg * w.toNatClampNeg / 64 / 8192))), (.int ((wd.toInt32) &&& (8191 : Int32))), (.ref (P (p1.toNatClampNeg * w.toNatClampNeg / 64 / 8192)))])) rfl rfl (hb hby d11_83) _ k)
    have K36 : ∀ t, Steps p.tables e below (T28.setTop (mkF m 85 #[.val (.ref a1), .val (.int p1), .val (.long v2), .second, .val (.long bt), .second, .val (.long wd), .second, .val (.int sh), .val (.ref (P (p1.toNatClampNeg * w.toNatClampNeg / 64 / 8192))), .val (.int ((wd.toInt32) &&& (8191 : Int32))), .unset, .unset, .unset] [(.ref a1), (.long (W (p1.toNatClampNeg * w.toNatClampNeg / 64))), (.int ((wd.toInt32) &&& (8191 : Int32))), (.ref (P (p1.toNatClampNeg * w.toNatClampNeg / 64 / 8192)))])) t → Steps p.tables e below G t := by
      intro t k
      refine K35 t ?_
      show Steps p.tables e below (T28.setTop (mkF m 84 #[.val (.ref a1), .val (.int p1), .val (.long v2), .second, .val (.long bt), .second, .val (.long wd), .second, .val (.int sh), .val (.ref (P (p1.toNatClampNeg * w.toNatClampNeg / 64 / 8192))), .val (.int ((wd.toInt32) &&& (8191 : Int32))), .unset, .unset, .unset] [(.long (W (p1.toNatClampNeg * w.toNatClampNeg / 64))), (.int ((wd.toInt32) &&& (8191 : Int32))), (.ref (P (p1.toNatClampNeg * w.toNatClampNeg / 64 / 8192)))])) _
      refine XS.aloadN X28.here hx rfl (hb hby d11_84) rfl rfl ?_
      show Steps p.tables e below (T28.setTop (mkF m 85 #[.val (.ref a1), .val (.int p1), .val (.long v2), .second, .val (.long bt), .second, .val (.long wd), .second, .val (.int sh), .val (.ref (P (p1.toNatClampNeg * w.toNatClampNeg / 64 / 8192))), .val (.int ((wd.toInt32) &&& (8191 : Int32))), .unset, .unset, .unset] [(.ref a1), (.long (W (p1.toNatClampNeg * w.toNatClampNeg / 64))), (.int ((wd.toInt32) &&& (8191 : Int32))), (.ref (P (p1.toNatClampNeg * w.toNatClampNeg / 64 / 8192)))])) _
      exact k
    obtain ⟨T37, X37, e37, st37⟩ := getF X28 hx hZ hown (host := "") (Or.inl (hw _ (List.mem_of_getElem? (i := 36) rfl))) Via.refl e28 Fm0 (g := (mkF m 85 #[.val (.ref a1), .val (.int p1), .val (.long v2), .second, .val (.long bt), .second, .val (.long wd), .second, .val (.int sh), .val (.ref (P (p1.toNatClampNeg * w.toNatClampNeg / 64 / 8192))), .val (.int ((wd.toInt32) &&& (8191 : Int32))), .unset, .unset, .unset] [(.ref a1), (.long (W (p1.toNatClampNeg * w.toNatClampNeg / 64))), (.int ((wd.toInt32) &&& (8191 : Int32))), (.ref (P (p1.toNatClampNeg * w.toNatClampNeg / 64 / 8192)))])) rfl rfl (hb hby d11_85)
    have K38 : ∀ t, Steps p.tables e below (T37.setTop (mkF m 88 #[.val (.ref a1), .val (.int p1), .val (.long v2), .second, .val (.long bt), .second, .val (.long wd), .second, .val (.int sh), .val (.ref (P (p1.toNatClampNeg * w.toNatClampNeg / 64 / 8192))), .val (.int ((wd.toInt32) &&& (8191 : Int32))), .unset, .unset, .unset] [(.long mk), (.long (W (p1.toNatClampNeg * w.toNatClampNeg / 64))), (.int ((wd.toInt32) &&& (8191 : Int32))), (.ref (P (p1.toNatClampNeg * w.toNatClampNeg / 64 / 8192)))])) t → Steps p.tables e below G t := fun t k => K36 t (st37 t k)
    have K39 : ∀ t, Steps p.tables e below (T37.setTop (mkF m 101 #[.val (.ref a1), .val (.int p1), .val (.long v2), .second, .val (.long bt), .second, .val (.long wd), .second, .val (.int sh), .val (.ref (P (p1.toNatClampNeg * w.toNatClampNeg / 64 / 8192))), .val (.int ((wd.toInt32) &&& (8191 : Int32))), .unset, .unset, .unset] [(.long (((W (p1.toNatClampNeg * w.toNatClampNeg / 64)) &&& ((mk <<< (sh &&& 0x3f).toInt64) ^^^ (-1 : Int64))) ||| (v2 <<< (sh &&& 0x3f).toInt64))), (.int ((wd.toInt32) &&& (8191 : Int32))), (.ref (P (p1.toNatClampNeg * w.toNatClampNeg / 64 / 8192)))])) t → Steps p.tables e below G t := by
      intro t k
      refine K38 t ?_
      show Steps p.tables e below (T37.setTop (mkF m 88 #[.val (.ref a1), .val (.int p1), .val (.long v2), .second, .val (.long bt), .second, .val (.long wd), .second, .val (.int sh), .val (.ref (P (p1.toNatClampNeg * w.toNatClampNeg / 64 / 8192))), .val (.int ((wd.toInt32) &&& (8191 : Int32))), .unset, .unset, .unset] [(.long mk), (.long (W (p1.toNatClampNeg * w.toNatClampNeg / 64))), (.int ((wd.toInt32) &&& (8191 : Int32))), (.ref (P (p1.toNatClampNeg * w.toNatClampNeg / 64 / 8192)))])) _
      refine XS.iload X37.here hx rfl (hb hby d11_88) rfl ?_
      show Steps p.tables e below (T37.setTop (mkF m 90 #[.val (.ref a1), .val (.int p1), .val (.long v2), .second, .val (.long bt), .second, .val (.long wd), .second, .val (.int sh), .val (.ref (P (p1.toNatClampNeg * w.toNatClampNeg / 64 / 8192))), .val (.int ((wd.toInt32) &&& (8191 : Int32))), .unset, .unset, .unset] [(.int sh), (.long mk), (.long (W (p1.toNatClampNeg * w.toNatClampNeg / 64))), (.int ((wd.toInt32) &&& (8191 : Int32))), (.ref (P (p1.toNatClampNeg * w.toNatClampNeg / 64 / 8192)))])) _
      refine XS.lshl X37.here hx rfl (hb hby d11_90) rfl ?_
      show Steps p.tables e below (T37.setTop (mkF m 91 #[.val (.ref a1), .val (.int p1), .val (.long v2), .second, .val (.long bt), .second, .val (.long wd), .second, .val (.int sh), .val (.ref (P (p1.toNatClampNeg * w.toNatClampNeg / 64 / 8192))), .val (.int ((wd.toInt32) &&& (8191 : Int32))), .unset, .unset, .unset] [(.long (mk <<< (sh &&& 0x3f).toInt64)), (.long (W (p1.toNatClampNeg * w.toNatClampNeg / 64))), (.int ((wd.toInt32) &&& (8191 : Int32))), (.ref (P (p1.toNatClampNeg * w.toNatClampNeg / 64 / 8192)))])) _
      refine X37.ldc2Long hx hown (mvT hZ (hw _ (List.mem_of_getElem? (i := 35) rfl))) (g := (mkF m 91 #[.val (.ref a1), .val (.int p1), .val (.long v2), .second, .val (.long bt), .second, .val (.long wd), .second, .val (.int sh), .val (.ref (P (p1.toNatClampNeg * w.toNatClampNeg / 64 / 8192))), .val (.int ((wd.toInt32) &&& (8191 : Int32))), .unset, .unset, .unset] [(.long (mk <<< (sh &&& 0x3f).toInt64)), (.long (W (p1.toNatClampNeg * w.toNatClampNeg / 64))), (.int ((wd.toInt32) &&& (8191 : Int32))), (.ref (P (p1.toNatClampNeg * w.toNatClampNeg / 64 / 8192)))])) rfl (hb hby d11_91) _ ?_
      show Steps p.tables e below (T37.setTop (mkF m 94 #[.val (.ref a1), .val (.int p1), .val (.long v2), .second, .val (.long bt), .second, .val (.long wd), .second, .val (.int sh), .val (.ref (P (p1.toNatClampNeg * w.toNatClampNeg / 64 / 8192))), .val (.int ((wd.toInt32) &&& (8191 : Int32))), .unset, .unset, .unset] [(.long (-1 : Int64)), (.long (mk <<< (sh &&& 0x3f).toInt64)), (.long (W (p1.toNatClampNeg * w.toNatClampNeg / 64))), (.int ((wd.toInt32) &&& (8191 : Int32))), (.ref (P (p1.toNatClampNeg * w.toNatClampNeg / 64 / 8192)))])) _
      refine XS.lxor X37.here hx rfl (hb hby d11_94) rfl ?_
      show Steps p.tables e below (T37.setTop (mkF m 95 #[.val (.ref a1), .val (.int p1), .val (.long v2), .second, .val (.long bt), .second, .val (.long wd), .second, .val (.int sh), .val (.ref (P (p1.toNatClampNeg * w.toNatClampNeg / 64 / 8192))), .val (.int ((wd.toInt32) &&& (8191 : Int32))), .unset, .unset, .unset] [(.long ((mk <<< (sh &&& 0x3f).toInt64) ^^^ (-1 : Int64))), (.long (W (p1.toNatClampNeg * w.toNatClampNeg / 64))), (.int ((wd.toInt32) &&& (8191 : Int32))), (.ref (P (p1.toNatClampNeg * w.toNatClampNeg / 64 / 8192)))])) _
      refine XS.land X37.here hx rfl (hb hby d11_95) rfl ?_
      show Steps p.tables e below (T37.setTop (mkF m 96 #[.val (.ref a1), .val (.int p1), .val (.long v2), .second, .val (.long bt), .second, .val (.long wd), .second, .val (.int sh), .val (.ref (P (p1.toNatClampNeg * w.toNatClampNeg / 64 / 8192))), .val (.int ((wd.toInt32) &&& (8191 : Int32))), .unset, .unset, .unset] [(.long ((W (p1.toNatClampNeg * w.toNatClampNeg / 64)) &&& ((mk <<< (sh &&& 0x3f).toInt64) ^^^ (-1 : Int64)))), (.int ((wd.toInt32) &&& (8191 : Int32))), (.ref (P (p1.toNatClampNeg * w.toNatClampNeg / 64 / 8192)))])) _
      refine XS.lloadN X37.here hx rfl (hb hby d11_96) rfl ?_
      show Steps p.tables e below (T37.setTop (mkF m 97 #[.val (.ref a1), .val (.int p1), .val (.long v2), .second, .val (.long bt), .second, .val (.long wd), .second, .val (.int sh), .val (.ref (P (p1.toNatClampNeg * w.toNatClampNeg / 64 / 8192))), .val (.int ((wd.toInt32) &&& (8191 : Int32))), .unset, .unset, .unset] [(.long v2), (.long ((W (p1.toNatClampNeg * w.toNatClampNeg / 64)) &&& ((mk <<< (sh &&& 0x3f).toInt64) ^^^ (-1 : Int64)))), (.int ((wd.toInt32) &&& (8191 : Int32))), (.ref (P (p1.toNatClampNeg * w.toNatClampNeg / 64 / 8192)))])) _
      refine XS.iload X37.here hx rfl (hb hby d11_97) rfl ?_
      show Steps p.tables e below (T37.setTop (mkF m 99 #[.val (.ref a1), .val (.int p1), .val (.long v2), .second, .val (.long bt), .second, .val (.long wd), .second, .val (.int sh), .val (.ref (P (p1.toNatClampNeg * w.toNatClampNeg / 64 / 8192))), .val (.int ((wd.toInt32) &&& (8191 : Int32))), .unset, .unset, .unset] [(.int sh), (.long v2), (.long ((W (p1.toNatClampNeg * w.toNatClampNeg / 64)) &&& ((mk <<< (sh &&& 0x3f).toInt64) ^^^ (-1 : Int64)))), (.int ((wd.toInt32) &&& (8191 : Int32))), (.ref (P (p1.toNatClampNeg * w.toNatClampNeg / 64 / 8192)))])) _
      refine XS.lshl X37.here hx rfl (hb hby d11_99) rfl ?_
      show Steps p.tables e below (T37.setTop (mkF m 100 #[.val (.ref a1), .val (.int p1), .val (.long v2), .second, .val (.long bt), .second, .val (.long wd), .second, .val (.int sh), .val (.ref (P (p1.toNatClampNeg * w.toNatClampNeg / 64 / 8192))), .val (.int ((wd.toInt32) &&& (8191 : Int32))), .unset, .unset, .unset] [(.long (v2 <<< (sh &&& 0x3f).toInt64)), (.long ((W (p1.toNatClampNeg * w.toNatClampNeg / 64)) &&& ((mk <<< (sh &&& 0x3f).toInt64) ^^^ (-1 : Int64)))), (.int ((wd.toInt32) &&& (8191 : Int32))), (.ref (P (p1.toNatClampNeg * w.toNatClampNeg / 64 / 8192)))])) _
      refine XS.lor X37.here hx rfl (hb hby d11_100) rfl ?_
      show Steps p.tables e below (T37.setTop (mkF m 101 #[.val (.ref a1), .val (.int p1), .val (.long v2), .second, .val (.long bt), .second, .val (.long wd), .second, .val (.int sh), .val (.ref (P (p1.toNatClampNeg * w.toNatClampNeg / 64 / 8192))), .val (.int ((wd.toInt32) &&& (8191 : Int32))), .unset, .unset, .unset] [(.long (((W (p1.toNatClampNeg * w.toNatClampNeg / 64)) &&& ((mk <<< (sh &&& 0x3f).toInt64) ^^^ (-1 : Int64))) ||| (v2 <<< (sh &&& 0x3f).toInt64))), (.int ((wd.toInt32) &&& (8191 : Int32))), (.ref (P (p1.toNatClampNeg * w.toNatClampNeg / 64 / 8192)))])) _
      exact k
    obtain ⟨cl40, Ar40, Sz40, Hv40⟩ := (HA0 _ ok1.1).1
    obtain ⟨hin40, hjn40⟩ := own_inp (j := ((wd.toInt32) &&& (8191 : Int32))) (q := (p1.toNatClampNeg * w.toNatClampNeg / 64) % 8192) hj2 ok1.2 cl40 Sz40
    obtain ⟨T40, h40, X40, e40, W40, st40⟩ := stJ X37 hx hZ e37 Ar40 (j := ((wd.toInt32) &&& (8191 : Int32))) hin40 (g := (mkF m 101 #[.val (.ref a1), .val (.int p1), .val (.long v2), .second, .val (.long bt), .second, .val (.long wd), .second, .val (.int sh), .val (.ref (P (p1.toNatClampNeg * w.toNatClampNeg / 64 / 8192))), .val (.int ((wd.toInt32) &&& (8191 : Int32))), .unset, .unset, .unset] [(.long (((W (p1.toNatClampNeg * w.toNatClampNeg / 64)) &&& ((mk <<< (sh &&& 0x3f).toInt64) ^^^ (-1 : Int64))) ||| (v2 <<< (sh &&& 0x3f).toInt64))), (.int ((wd.toInt32) &&& (8191 : Int32))), (.ref (P (p1.toNatClampNeg * w.toNatClampNeg / 64 / 8192)))])) rfl rfl (hb hby d11_101)
    rw [hjn40] at W40
    have S40 := own_St_wr S0 ok1.1 (Nat.mod_lt _ (by decide)) W40
    rw [Nat.div_add_mod] at S40
    obtain ⟨W1, h_W1⟩ : ∃ F : Nat → Int64, F = (fun n => if n = p1.toNatClampNeg * w.toNatClampNeg / 64 then (((W (p1.toNatClampNeg * w.toNatClampNeg / 64)) &&& ((mk <<< (sh &&& 0x3f).toInt64) ^^^ (-1 : Int64))) ||| (v2 <<< (sh &&& 0x3f).toInt64)) else W n) := ⟨_, rfl⟩
    rw [← h_W1] at S40
    have N40 := Fr.snoc X40 N0 (HA0 _ ok1.1).2.2.2.1
    have K41 : ∀ t, Steps p.tables e below (T40.setTop (mkF m 102 #[.val (.ref a1), .val (.int p1), .val (.long v2), .second, .val (.long bt), .second, .val (.long wd), .second, .val (.int sh), .val (.ref (P (p1.toNatClampNeg * w.toNatClampNeg / 64 / 8192))), .val (.int ((wd.toInt32) &&& (8191 : Int32))), .unset, .unset, .unset] [])) t → Steps p.tables e below G t := fun t k => K39 t (st40 t k)
    have Z42 : n0 ≤ h40.size := Nat.le_trans Z0 (Keep.of_wr W40).1
    obtain ⟨Es40, Fw40, Fm40, Fp40, ⟨cp40, Ap40, Sp40, Hp40⟩, HA40, inj40⟩ := id S40
    have K43 : ∀ t, Steps p.tables e below (T40.setTop (mkF m 105 #[.val (.ref a1), .val (.int p1), .val (.long v2), .second, .val (.long bt), .second, .val (.long wd), .second, .val (.int sh), .val (.ref (P (p1.toNatClampNeg * w.toNatClampNeg / 64 / 8192))), .val (.int ((wd.toInt32) &&& (8191 : Int32))), .unset, .unset, .unset] [(.ref a1), (.int sh)])) t → Steps p.tables e below G t := by
      intro t k
      refine K41 t ?_
      show Steps p.tables e below (T40.setTop (mkF m 102 #[.val (.ref a1), .val (.int p1), .val (.long v2), .second, .val (.long bt), .second, .val (.long wd), .second, .val (.int sh), .val (.ref (P (p1.toNatClampNeg * w.toNatClampNeg / 64 / 8192))), .val (.int ((wd.toInt32) &&& (8191 : Int32))), .unset, .unset, .unset] [])) _
      refine XS.iload X40.here hx rfl (hb hby d11_102) rfl ?_
      show Steps p.tables e below (T40.setTop (mkF m 104 #[.val (.ref a1), .val (.int p1), .val (.long v2), .second, .val (.long bt), .second, .val (.long wd), .second, .val (.int sh), .val (.ref (P (p1.toNatClampNeg * w.toNatClampNeg / 64 / 8192))), .val (.int ((wd.toInt32) &&& (8191 : Int32))), .unset, .unset, .unset] [(.int sh)])) _
      refine XS.aloadN X40.here hx rfl (hb hby d11_104) rfl rfl ?_
      show Steps p.tables e below (T40.setTop (mkF m 105 #[.val (.ref a1), .val (.int p1), .val (.long v2), .second, .val (.long bt), .second, .val (.long wd), .second, .val (.int sh), .val (.ref (P (p1.toNatClampNeg * w.toNatClampNeg / 64 / 8192))), .val (.int ((wd.toInt32) &&& (8191 : Int32))), .unset, .unset, .unset] [(.ref a1), (.int sh)])) _
      exact k
    obtain ⟨T44, X44, e44, st44⟩ := getF X40 hx hZ hown (host := "") (Or.inl (hw _ (List.mem_of_getElem? (i := 33) rfl))) Via.refl e40 Fw40 (g := (mkF m 105 #[.val (.ref a1), .val (.int p1), .val (.long v2), .second, .val (.long bt), .second, .val (.long wd), .second, .val (.int sh), .val (.ref (P (p1.toNatClampNeg * w.toNatClampNeg / 64 / 8192))), .val (.int ((wd.toInt32) &&& (8191 : Int32))), .unset, .unset, .unset] [(.ref a1), (.int sh)])) rfl rfl (hb hby d11_105)
    have K45 : ∀ t, Steps p.tables e below (T44.setTop (mkF m 108 #[.val (.ref a1), .val (.int p1), .val (.long v2), .second, .val (.long bt), .second, .val (.long wd), .second, .val (.int sh), .val (.ref (P (p1.toNatClampNeg * w.toNatClampNeg / 64 / 8192))), .val (.int ((wd.toInt32) &&& (8191 : Int32))), .unset, .unset, .unset] [(.int w), (.int sh)])) t → Steps p.tables e below G t := fun t k => K43 t (st44 t k)
    have K46 : ∀ t, Steps p.tables e below (T44.setTop (mkF m 111 #[.val (.ref a1), .val (.int p1), .val (.long v2), .second, .val (.long bt), .second, .val (.long wd), .second, .val (.int sh), .val (.ref (P (p1.toNatClampNeg * w.toNatClampNeg / 64 / 8192))), .val (.int ((wd.toInt32) &&& (8191 : Int32))), .unset, .unset, .unset] [(.int (64 : Int32)), (.int (sh + w))])) t → Steps p.tables e below G t := by
      intro t k
      refine K45 t ?_
      show Steps p.tables e below (T44.setTop (mkF m 108 #[.val (.ref a1), .val (.int p1), .val (.long v2), .second, .val (.long bt), .second, .val (.long wd), .second, .val (.int sh), .val (.ref (P (p1.toNatClampNeg * w.toNatClampNeg / 64 / 8192))), .val (.int ((wd.toInt32) &&& (8191 : Int32))), .unset, .unset, .unset] [(.int w), (.int sh)])) _
      refine XS.iadd X44.here hx rfl (hb hby d11_108) rfl ?_
      show Steps p.tables e below (T44.setTop (mkF m 109 #[.val (.ref a1), .val (.int p1), .val (.long v2), .second, .val (.long bt), .second, .val (.long wd), .second, .val (.int sh), .val (.ref (P (p1.toNatClampNeg * w.toNatClampNeg / 64 / 8192))), .val (.int ((wd.toInt32) &&& (8191 : Int32))), .unset, .unset, .unset] [(.int (sh + w))])) _
      refine XS.bipush X44.here hx rfl (hb hby d11_109) ?_
      show Steps p.tables e below (T44.setTop (mkF m 111 #[.val (.ref a1), .val (.int p1), .val (.long v2), .second, .val (.long bt), .second, .val (.long wd), .second, .val (.int sh), .val (.ref (P (p1.toNatClampNeg * w.toNatClampNeg / 64 / 8192))), .val (.int ((wd.toInt32) &&& (8191 : Int32))), .unset, .unset, .unset] [(.int (64 : Int32)), (.int (sh + w))])) _
      exact k
    by_cases hc47 : (64 : Int32) < (sh + w)
    · have K48 : ∀ t, Steps p.tables e below (T44.setTop (mkF m 114 #[.val (.ref a1), .val (.int p1), .val (.long v2), .second, .val (.long bt), .second, .val (.long wd), .second, .val (.int sh), .val (.ref (P (p1.toNatClampNeg * w.toNatClampNeg / 64 / 8192))), .val (.int ((wd.toInt32) &&& (8191 : Int32))), .unset, .unset, .unset] [])) t → Steps p.tables e below G t := by
        intro t k
        refine K46 t ?_
        show Steps p.tables e below (T44.setTop (mkF m 111 #[.val (.ref a1), .val (.int p1), .val (.long v2), .second, .val (.long bt), .second, .val (.long wd), .second, .val (.int sh), .val (.ref (P (p1.toNatClampNeg * w.toNatClampNeg / 64 / 8192))), .val (.int ((wd.toInt32) &&& (8191 : Int32))), .unset, .unset, .unset] [(.int (64 : Int32)), (.int (sh + w))])) _
        refine XS.icmpNo X44.here hx rfl (hb hby d11_111) rfl (tlt hc47).2.2.2 ?_
        show Steps p.tables e below (T44.setTop (mkF m 114 #[.val (.ref a1), .val (.int p1), .val (.long v2), .second, .val (.long bt), .second, .val (.long wd), .second, .val (.int sh), .val (.ref (P (p1.toNatClampNeg * w.toNatClampNeg / 64 / 8192))), .val (.int ((wd.toInt32) &&& (8191 : Int32))), .unset, .unset, .unset] [])) _
        exact k
      have hcr := (own_cross es hwd).mp hc47
      have h0s : 0 < p1.toNatClampNeg * w.toNatClampNeg % 64 := by omega
      have ok2 := hok _ (own_in2 his hw64 hcr)
      have ed1 := own_l1 ed hkb
      have hj3 := own_pg ed1 (by omega)
      have hj4 := own_ix ed1 (by omega)
      have K49 : ∀ t, Steps p.tables e below (T44.setTop (mkF m 122 #[.val (.ref a1), .val (.int p1), .val (.long v2), .second, .val (.long bt), .second, .val (.long wd), .second, .val (.int sh), .val (.ref (P (p1.toNatClampNeg * w.toNatClampNeg / 64 / 8192))), .val (.int ((wd.toInt32) &&& (8191 : Int32))), .val (.int ((64 : Int32) - sh)), .unset, .unset] [(.ref a1)])) t → Steps p.tables e below G t := by
        intro t k
        refine K48 t ?_
        show Steps p.tables e below (T44.setTop (mkF m 114 #[.val (.ref a1), .val (.int p1), .val (.long v2), .second, .val (.long bt), .second, .val (.long wd), .second, .val (.int sh), .val (.ref (P (p1.toNatClampNeg * w.toNatClampNeg / 64 / 8192))), .val (.int ((wd.toInt32) &&& (8191 : Int32))), .unset, .unset, .unset] [])) _
        refine XS.bipush X44.here hx rfl (hb hby d11_114) ?_
        show Steps p.tables e below (T44.setTop (mkF m 116 #[.val (.ref a1), .val (.int p1), .val (.long v2), .second, .val (.long bt), .second, .val (.long wd), .second, .val (.int sh), .val (.ref (P (p1.toNatClampNeg * w.toNatClampNeg / 64 / 8192))), .val (.int ((wd.toInt32) &&& (8191 : Int32))), .unset, .unset, .unset] [(.int (64 : Int32))])) _
        refine XS.iload X44.here hx rfl (hb hby d11_116) rfl ?_
        show Steps p.tables e below (T44.setTop (mkF m 118 #[.val (.ref a1), .val (.int p1), .val (.long v2), .second, .val (.long bt), .second, .val (.long wd), .second, .val (.int sh), .val (.ref (P (p1.toNatClampNeg * w.toNatClampNeg / 64 / 8192))), .val (.int ((wd.toInt32) &&& (8191 : Int32))), .unset, .unset, .unset] [(.int sh), (.int (64 : Int32))])) _
        refine XS.isub X44.here hx rfl (hb hby d11_118) rfl ?_
        show Steps p.tables e below (T44.setTop (mkF m 119 #[.val (.ref a1), .val (.int p1), .val (.long v2), .second, .val (.long bt), .second, .val (.long wd), .second, .val (.int sh), .val (.ref (P (p1.toNatClampNeg * w.toNatClampNeg / 64 / 8192))), .val (.int ((wd.toInt32) &&& (8191 : Int32))), .unset, .unset, .unset] [(.int ((64 : Int32) - sh))])) _
        refine XS.istore X44.here hx rfl (hb hby d11_119) rfl (l' := #[.val (.ref a1), .val (.int p1), .val (.long v2), .second, .val (.long bt), .second, .val (.long wd), .second, .val (.int sh), .val (.ref (P (p1.toNatClampNeg * w.toNatClampNeg / 64 / 8192))), .val (.int ((wd.toInt32) &&& (8191 : Int32))), .val (.int ((64 : Int32) - sh)), .unset, .unset]) rfl ?_
        show Steps p.tables e below (T44.setTop (mkF m 121 #[.val (.ref a1), .val (.int p1), .val (.long v2), .second, .val (.long bt), .second, .val (.long wd), .second, .val (.int sh), .val (.ref (P (p1.toNatClampNeg * w.toNatClampNeg / 64 / 8192))), .val (.int ((wd.toInt32) &&& (8191 : Int32))), .val (.int ((64 : Int32) - sh)), .unset, .unset] [])) _
        refine XS.aloadN X44.here hx rfl (hb hby d11_121) rfl rfl ?_
        show Steps p.tables e below (T44.setTop (mkF m 122 #[.val (.ref a1), .val (.int p1), .val (.long v2), .second, .val (.long bt), .second, .val (.long wd), .second, .val (.int sh), .val (.ref (P (p1.toNatClampNeg * w.toNatClampNeg / 64 / 8192))), .val (.int ((wd.toInt32) &&& (8191 : Int32))), .val (.int ((64 : Int32) - sh)), .unset, .unset] [(.ref a1)])) _
        exact k
      obtain ⟨T50, X50, e50, st50⟩ := getF X44 hx hZ hown (host := "") (Or.inl (hw _ (List.mem_of_getElem? (i := 46) rfl))) Via.refl e44 Fp40 (g := (mkF m 122 #[.val (.ref a1), .val (.int p1), .val (.long v2), .second, .val (.long bt), .second, .val (.long wd), .second, .val (.int sh), .val (.ref (P (p1.toNatClampNeg * w.toNatClampNeg / 64 / 8192))), .val (.int ((wd.toInt32) &&& (8191 : Int32))), .val (.int ((64 : Int32) - sh)), .unset, .unset] [(.ref a1)])) rfl rfl (hb hby d11_122)
      have K51 : ∀ t, Steps p.tables e below (T50.setTop (mkF m 125 #[.val (.ref a1), .val (.int p1), .val (.long v2), .second, .val (.long bt), .second, .val (.long wd), .second, .val (.int sh), .val (.ref (P (p1.toNatClampNeg * w.toNatClampNeg / 64 / 8192))), .val (.int ((wd.toInt32) &&& (8191 : Int32))), .val (.int ((64 : Int32) - sh)), .unset, .unset] [(.ref ps)])) t → Steps p.tables e below G t := fun t k => K49 t (st50 t k)
      have K52 : ∀ t, Steps p.tables e below (T50.setTop (mkF m 133 #[.val (.ref a1), .val (.int p1), .val (.long v2), .second, .val (.long bt), .second, .val (.long wd), .second, .val (.int sh), .val (.ref (P (p1.toNatClampNeg * w.toNatClampNeg / 64 / 8192))), .val (.int ((wd.toInt32) &&& (8191 : Int32))), .val (.int ((64 : Int32) - sh)), .unset, .unset] [(.int ((((wd + (1 : Int64)).toUInt64 >>> ((13 : Int32) &&& 0x3f).toInt64.toUInt64).toInt64).toInt32)), (.ref ps)])) t → Steps p.tables e below G t := by
        intro t k
        refine K51 t ?_
        show Steps p.tables e below (T50.setTop (mkF m 125 #[.val (.ref a1), .val (.int p1), .val (.long v2), .second, .val (.long bt), .second, .val (.long wd), .second, .val (.int sh), .val (.ref (P (p1.toNatClampNeg * w.toNatClampNeg / 64 / 8192))), .val (.int ((wd.toInt32) &&& (8191 : Int32))), .val (.int ((64 : Int32) - sh)), .unset, .unset] [(.ref ps)])) _
        refine XS.lload X50.here hx rfl (hb hby d11_125) rfl ?_
        show Steps p.tables e below (T50.setTop (mkF m 127 #[.val (.ref a1), .val (.int p1), .val (.long v2), .second, .val (.long bt), .second, .val (.long wd), .second, .val (.int sh), .val (.ref (P (p1.toNatClampNeg * w.toNatClampNeg / 64 / 8192))), .val (.int ((wd.toInt32) &&& (8191 : Int32))), .val (.int ((64 : Int32) - sh)), .unset, .unset] [(.long wd), (.ref ps)])) _
        refine XS.lconst X50.here hx rfl (hb hby d11_127) ?_
        show Steps p.tables e below (T50.setTop (mkF m 128 #[.val (.ref a1), .val (.int p1), .val (.long v2), .second, .val (.long bt), .second, .val (.long wd), .second, .val (.int sh), .val (.ref (P (p1.toNatClampNeg * w.toNatClampNeg / 64 / 8192))), .val (.int ((wd.toInt32) &&& (8191 : Int32))), .val (.int ((64 : Int32) - sh)), .unset, .unset] [(.long (1 : Int64)), (.long wd), (.ref ps)])) _
        refine XS.ladd X50.here hx rfl (hb hby d11_128) rfl ?_
        show Steps p.tables e below (T50.setTop (mkF m 129 #[.val (.ref a1), .val (.int p1), .val (.long v2), .second, .val (.long bt), .second, .val (.long wd), .second, .val (.int sh), .val (.ref (P (p1.toNatClampNeg * w.toNatClampNeg / 64 / 8192))), .val (.int ((wd.toInt32) &&& (8191 : Int32))), .val (.int ((64 : Int32) - sh)), .unset, .unset] [(.long (wd + (1 : Int64))), (.ref ps)])) _
        refine XS.bipush X50.here hx rfl (hb hby d11_129) ?_
        show Steps p.tables e below (T50.setTop (mkF m 131 #[.val (.ref a1), .val (.int p1), .val (.long v2), .second, .val (.long bt), .second, .val (.long wd), .second, .val (.int sh), .val (.ref (P (p1.toNatClampNeg * w.toNatClampNeg / 64 / 8192))), .val (.int ((wd.toInt32) &&& (8191 : Int32))), .val (.int ((64 : Int32) - sh)), .unset, .unset] [(.int (13 : Int32)), (.long (wd + (1 : Int64))), (.ref ps)])) _
        refine XS.lushr X50.here hx rfl (hb hby d11_131) rfl ?_
        show Steps p.tables e below (T50.setTop (mkF m 132 #[.val (.ref a1), .val (.int p1), .val (.long v2), .second, .val (.long bt), .second, .val (.long wd), .second, .val (.int sh), .val (.ref (P (p1.toNatClampNeg * w.toNatClampNeg / 64 / 8192))), .val (.int ((wd.toInt32) &&& (8191 : Int32))), .val (.int ((64 : Int32) - sh)), .unset, .unset] [(.long (((wd + (1 : Int64)).toUInt64 >>> ((13 : Int32) &&& 0x3f).toInt64.toUInt64).toInt64)), (.ref ps)])) _
        refine XS.l2i X50.here hx rfl (hb hby d11_132) rfl ?_
        show Steps p.tables e below (T50.setTop (mkF m 133 #[.val (.ref a1), .val (.int p1), .val (.long v2), .second, .val (.long bt), .second, .val (.long wd), .second, .val (.int sh), .val (.ref (P (p1.toNatClampNeg * w.toNatClampNeg / 64 / 8192))), .val (.int ((wd.toInt32) &&& (8191 : Int32))), .val (.int ((64 : Int32) - sh)), .unset, .unset] [(.int ((((wd + (1 : Int64)).toUInt64 >>> ((13 : Int32) &&& 0x3f).toInt64.toUInt64).toInt64).toInt32)), (.ref ps)])) _
        exact k
      obtain ⟨hin53, hjn53⟩ := own_inp (j := ((((wd + (1 : Int64)).toUInt64 >>> ((13 : Int32) &&& 0x3f).toInt64.toUInt64).toInt64).toInt32)) (q := (p1.toNatClampNeg * w.toNatClampNeg / 64 + 1) / 8192) hj3 ok2.1 cp40 Sp40
      have hat53 : cp40.slots[(((((wd + (1 : Int64)).toUInt64 >>> ((13 : Int32) &&& 0x3f).toInt64.toUInt64).toInt64).toInt32)).toNatClampNeg]? = some (.ref (P ((p1.toNatClampNeg * w.toNatClampNeg / 64 + 1) / 8192))) := by rw [hjn53]; exact Hp40 _ ok2.1
      have K54 : ∀ t, Steps p.tables e below (T50.setTop (mkF m 134 #[.val (.ref a1), .val (.int p1), .val (.long v2), .second, .val (.long bt), .second, .val (.long wd), .second, .val (.int sh), .val (.ref (P (p1.toNatClampNeg * w.toNatClampNeg / 64 / 8192))), .val (.int ((wd.toInt32) &&& (8191 : Int32))), .val (.int ((64 : Int32) - sh)), .unset, .unset] [(.ref (P ((p1.toNatClampNeg * w.toNatClampNeg / 64 + 1) / 8192)))])) t → Steps p.tables e below G t := fun t k => K52 t (X50.aaload hx (j := ((((wd + (1 : Int64)).toUInt64 >>> ((13 : Int32) &&& 0x3f).toInt64.toUInt64).toInt64).toInt32)) (v := .ref (P ((p1.toNatClampNeg * w.toNatClampNeg / 64 + 1) / 8192))) (by rw [e50]; exact Ap40.1) (State.isArrayOf_alike hZ.alike Ap40.2.1) rfl Ap40.2.2 hin53 hat53 (g := (mkF m 133 #[.val (.ref a1), .val (.int p1), .val (.long v2), .second, .val (.long bt), .second, .val (.long wd), .second, .val (.int sh), .val (.ref (P (p1.toNatClampNeg * w.toNatClampNeg / 64 / 8192))), .val (.int ((wd.toInt32) &&& (8191 : Int32))), .val (.int ((64 : Int32) - sh)), .unset, .unset] [(.int ((((wd + (1 : Int64)).toUInt64 >>> ((13 : Int32) &&& 0x3f).toInt64.toUInt64).toInt64).toInt32)), (.ref ps)])) rfl rfl (hb hby d11_133) _ k)
      have K55 : ∀ t, Steps p.tables e below (T50.setTop (mkF m 155 #[.val (.ref a1), .val (.int p1), .val (.long v2), .second, .val (.long bt), .second, .val (.long wd), .second, .val (.int sh), .val (.ref (P (p1.toNatClampNeg * w.toNatClampNeg / 64 / 8192))), .val (.int ((wd.toInt32) &&& (8191 : Int32))), .val (.int ((64 : Int32) - sh)), .val (.ref (P ((p1.toNatClampNeg * w.toNatClampNeg / 64 + 1) / 8192))), .val (.int (((wd + (1 : Int64)).toInt32) &&& (8191 : Int32)))] [(.int (((wd + (1 : Int64)).toInt32) &&& (8191 : Int32))), (.ref (P ((p1.toNatClampNeg * w.toNatClampNeg / 64 + 1) / 8192))), (.int (((wd + (1 : Int64)).toInt32) &&& (8191 : Int32))), (.ref (P ((p1.toNatClampNeg * w.toNatClampNeg / 64 + 1) / 8192)))])) t → Steps p.tables e below G t := by
        intro t k
        refine K54 t ?_
        show Steps p.tables e below (T50.setTop (mkF m 134 #[.val (.ref a1), .val (.int p1), .val (.long v2), .second, .val (.long bt), .second, .val (.long wd), .second, .val (.int sh), .val (.ref (P (p1.toNatClampNeg * w.toNatClampNeg / 64 / 8192))), .val (.int ((wd.toInt32) &&& (8191 : Int32))), .val (.int ((64 : Int32) - sh)), .unset, .unset] [(.ref (P ((p1.toNatClampNeg * w.toNatClampNeg / 64 + 1) / 8192)))])) _
        refine XS.astore X50.here hx rfl (hb hby d11_134) rfl rfl (l' := #[.val (.ref a1), .val (.int p1), .val (.long v2), .second, .val (.long bt), .second, .val (.long wd), .second, .val (.int sh), .val (.ref (P (p1.toNatClampNeg * w.toNatClampNeg / 64 / 8192))), .val (.int ((wd.toInt32) &&& (8191 : Int32))), .val (.int ((64 : Int32) - sh)), .val (.ref (P ((p1.toNatClampNeg * w.toNatClampNeg / 64 + 1) / 8192))), .unset]) rfl ?_
        show Steps p.tables e below (T50.setTop (mkF m 136 #[.val (.ref a1), .val (.int p1), .val (.long v2), .second, .val (.long bt), .second, .val (.long wd), .second, .val (.int sh), .val (.ref (P (p1.toNatClampNeg * w.toNatClampNeg / 64 / 8192))), .val (.int ((wd.toInt32) &&& (8191 : Int32))), .val (.int ((64 : Int32) - sh)), .val (.ref (P ((p1.toNatClampNeg * w.toNatClampNeg / 64 + 1) / 8192))), .unset] [])) _
        refine XS.lload X50.here hx rfl (hb hby d11_136) rfl ?_
        show Steps p.tables e below (T50.setTop (mkF m 138 #[.val (.ref a1), .val (.int p1), .val (.long v2), .second, .val (.long bt), .second, .val (.long wd), .second, .val (.int sh), .val (.ref (P (p1.toNatClampNeg * w.toNatClampNeg / 64 / 8192))), .val (.int ((wd.toInt32) &&& (8191 : Int32))), .val (.int ((64 : Int32) - sh)), .val (.ref (P ((p1.toNatClampNeg * w.toNatClampNeg / 64 + 1) / 8192))), .unset] [(.long wd)])) _
        refine XS.lconst X50.here hx rfl (hb hby d11_138) ?_
        show Steps p.tables e below (T50.setTop (mkF m 139 #[.val (.ref a1), .val (.int p1), .val (.long v2), .second, .val (.long bt), .second, .val (.long wd), .second, .val (.int sh), .val (.ref (P (p1.toNatClampNeg * w.toNatClampNeg / 64 / 8192))), .val (.int ((wd.toInt32) &&& (8191 : Int32))), .val (.int ((64 : Int32) - sh)), .val (.ref (P ((p1.toNatClampNeg * w.toNatClampNeg / 64 + 1) / 8192))), .unset] [(.long (1 : Int64)), (.long wd)])) _
        refine XS.ladd X50.here hx rfl (hb hby d11_139) rfl ?_
        show Steps p.tables e below (T50.setTop (mkF m 140 #[.val (.ref a1), .val (.int p1), .val (.long v2), .second, .val (.long bt), .second, .val (.long wd), .second, .val (.int sh), .val (.ref (P (p1.toNatClampNeg * w.toNatClampNeg / 64 / 8192))), .val (.int ((wd.toInt32) &&& (8191 : Int32))), .val (.int ((64 : Int32) - sh)), .val (.ref (P ((p1.toNatClampNeg * w.toNatClampNeg / 64 + 1) / 8192))), .unset] [(.long (wd + (1 : Int64)))])) _
        refine XS.l2i X50.here hx rfl (hb hby d11_140) rfl ?_
        show Steps p.tables e below (T50.setTop (mkF m 141 #[.val (.ref a1), .val (.int p1), .val (.long v2), .second, .val (.long bt), .second, .val (.long wd), .second, .val (.int sh), .val (.ref (P (p1.toNatClampNeg * w.toNatClampNeg / 64 / 8192))), .val (.int ((wd.toInt32) &&& (8191 : Int32))), .val (.int ((64 : Int32) - sh)), .val (.ref (P ((p1.toNatClampNeg * w.toNatClampNeg / 64 + 1) / 8192))), .unset] [(.int ((wd + (1 : Int64)).toInt32))])) _
        refine XS.sipush X50.here hx rfl (hb hby d11_141) ?_
        show Steps p.tables e below (T50.setTop (mkF m 144 #[.val (.ref a1), .val (.int p1), .val (.long v2), .second, .val (.long bt), .second, .val (.long wd), .second, .val (.int sh), .val (.ref (P (p1.toNatClampNeg * w.toNatClampNeg / 64 / 8192))), .val (.int ((wd.toInt32) &&& (8191 : Int32))), .val (.int ((64 : Int32) - sh)), .val (.ref (P ((p1.toNatClampNeg * w.toNatClampNeg / 64 + 1) / 8192))), .unset] [(.int (8191 : Int32)), (.int ((wd + (1 : Int64)).toInt32))])) _
        refine XS.iand X50.here hx rfl (hb hby d11_144) rfl ?_
        show Steps p.tables e below (T50.setTop (mkF m 145 #[.val (.ref a1), .val (.int p1), .val (.long v2), .second, .val (.long bt), .second, .val (.long wd), .second, .val (.int sh), .val (.ref (P (p1.toNatClampNeg * w.toNatClampNeg / 64 / 8192))), .val (.int ((wd.toInt32) &&& (8191 : Int32))), .val (.int ((64 : Int32) - sh)), .val (.ref (P ((p1.toNatClampNeg * w.toNatClampNeg / 64 + 1) / 8192))), .unset] [(.int (((wd + (1 : Int64)).toInt32) &&& (8191 : Int32)))])) _
        refine XS.istore X50.here hx rfl (hb hby d11_145) rfl (l' := #[.val (.ref a1), .val (.int p1), .val (.long v2), .second, .val (.long bt), .second, .val (.long wd), .second, .val (.int sh), .val (.ref (P (p1.toNatClampNeg * w.toNatClampNeg / 64 / 8192))), .val (.int ((wd.toInt32) &&& (8191 : Int32))), .val (.int ((64 : Int32) - sh)), .val (.ref (P ((p1.toNatClampNeg * w.toNatClampNeg / 64 + 1) / 8192))), .val (.int (((wd + (1 : Int64)).toInt32) &&& (8191 : Int32)))]) rfl ?_
        show Steps p.tables e below (T50.setTop (mkF m 147 #[.val (.ref a1), .val (.int p1), .val (.long v2), .second, .val (.long bt), .second, .val (.long wd), .second, .val (.int sh), .val (.ref (P (p1.toNatClampNeg * w.toNatClampNeg / 64 / 8192))), .val (.int ((wd.toInt32) &&& (8191 : Int32))), .val (.int ((64 : Int32) - sh)), .val (.ref (P ((p1.toNatClampNeg * w.toNatClampNeg / 64 + 1) / 8192))), .val (.int (((wd + (1 : Int64)).toInt32) &&& (8191 : Int32)))] [])) _
        refine XS.aload X50.here hx rfl (hb hby d11_147) rfl rfl ?_
        show Steps p.tables e below (T50.setTop (mkF m 149 #[.val (.ref a1), .val (.int p1), .val (.long v2), .second, .val (.long bt), .second, .val (.long wd), .second, .val (.int sh), .val (.ref (P (p1.toNatClampNeg * w.toNatClampNeg / 64 / 8192))), .val (.int ((wd.toInt32) &&& (8191 : Int32))), .val (.int ((64 : Int32) - sh)), .val (.ref (P ((p1.toNatClampNeg * w.toNatClampNeg / 64 + 1) / 8192))), .val (.int (((wd + (1 : Int64)).toInt32) &&& (8191 : Int32)))] [(.ref (P ((p1.toNatClampNeg * w.toNatClampNeg / 64 + 1) / 8192)))])) _
        refine XS.iload X50.here hx rfl (hb hby d11_149) rfl ?_
        show Steps p.tables e below (T50.setTop (mkF m 151 #[.val (.ref a1), .val (.int p1), .val (.long v2), .second, .val (.long bt), .second, .val (.long wd), .second, .val (.int sh), .val (.ref (P (p1.toNatClampNeg * w.toNatClampNeg / 64 / 8192))), .val (.int ((wd.toInt32) &&& (8191 : Int32))), .val (.int ((64 : Int32) - sh)), .val (.ref (P ((p1.toNatClampNeg * w.toNatClampNeg / 64 + 1) / 8192))), .val (.int (((wd + (1 : Int64)).toInt32) &&& (8191 : Int32)))] [(.int (((wd + (1 : Int64)).toInt32) &&& (8191 : Int32))), (.ref (P ((p1.toNatClampNeg * w.toNatClampNeg / 64 + 1) / 8192)))])) _
        refine XS.aload X50.here hx rfl (hb hby d11_151) rfl rfl ?_
        show Steps p.tables e below (T50.setTop (mkF m 153 #[.val (.ref a1), .val (.int p1), .val (.long v2), .second, .val (.long bt), .second, .val (.long wd), .second, .val (.int sh), .val (.ref (P (p1.toNatClampNeg * w.toNatClampNeg / 64 / 8192))), .val (.int ((wd.toInt32) &&& (8191 : Int32))), .val (.int ((64 : Int32) - sh)), .val (.ref (P ((p1.toNatClampNeg * w.toNatClampNeg / 64 + 1) / 8192))), .val (.int (((wd + (1 : Int64)).toInt32) &&& (8191 : Int32)))] [(.ref (P ((p1.toNatClampNeg * w.toNatClampNeg / 64 + 1) / 8192))), (.int (((wd + (1 : Int64)).toInt32) &&& (8191 : Int32))), (.ref (P ((p1.toNatClampNeg * w.toNatClampNeg / 64 + 1) / 8192)))])) _
        refine XS.iload X50.here hx rfl (hb hby d11_153) rfl ?_
        show Steps p.tables e below (T50.setTop (mkF m 155 #[.val (.ref a1), .val (.int p1), .val (.long v2), .second, .val (.long bt), .second, .val (.long wd), .second, .val (.int sh), .val (.ref (P (p1.toNatClampNeg * w.toNatClampNeg / 64 / 8192))), .val (.int ((wd.toInt32) &&& (8191 : Int32))), .val (.int ((64 : Int32) - sh)), .val (.ref (P ((p1.toNatClampNeg * w.toNatClampNeg / 64 + 1) / 8192))), .val (.int (((wd + (1 : Int64)).toInt32) &&& (8191 : Int32)))] [(.int (((wd + (1 : Int64)).toInt32) &&& (8191 : Int32))), (.ref (P ((p1.toNatClampNeg * w.toNatClampNeg / 64 + 1) / 8192))), (.int (((wd + (1 : Int64)).toInt32) &&& (8191 : Int32))), (.ref (P ((p1.toNatClampNeg * w.toNatClampNeg / 64 + 1) / 8192)))])) _
        exact k
      obtain ⟨cl56, Ar56, Sz56, Hv56⟩ := (HA40 _ ok2.1).1
      obtain ⟨hin56, hjn56⟩ := own_inp (j := (((wd + (1 : Int64)).toInt32) &&& (8191 : Int32))) (q := (p1.toNatClampNeg * w.toNatClampNeg / 64 + 1) % 8192) hj4 ok2.2 cl56 Sz56
      have hat56 : cl56.slots[((((wd + (1 : Int64)).toInt32) &&& (8191 : Int32))).toNatClampNeg]? = some (.long (W1 (p1.toNatClampNeg * w.toNatClampNeg / 64 + 1))) := by rw [hjn56, Hv56 _ ok2.2]; show some (Value.long (W1 (8192 * ((p1.toNatClampNeg * w.toNatClampNeg / 64 + 1) / 8192) + (p1.toNatClampNeg * w.toNatClampNeg / 64 + 1) % 8192))) = _; rw [Nat.div_add_mod]
      have K57 : ∀ t, Steps p.tables e below (T50.setTop (mkF m 156 #[.val (.ref a1), .val (.int p1), .val (.long v2), .second, .val (.long bt), .second, .val (.long wd), .second, .val (.int sh), .val (.ref (P (p1.toNatClampNeg * w.toNatClampNeg / 64 / 8192))), .val (.int ((wd.toInt32) &&& (8191 : Int32))), .val (.int ((64 : Int32) - sh)), .val (.ref (P ((p1.toNatClampNeg * w.toNatClampNeg / 64 + 1) / 8192))), .val (.int (((wd + (1 : Int64)).toInt32) &&& (8191 : Int32)))] [(.long (W1 (p1.toNatClampNeg * w.toNatClampNeg / 64 + 1))), (.int (((wd + (1 : Int64)).toInt32) &&& (8191 : Int32))), (.ref (P ((p1.toNatClampNeg * w.toNatClampNeg / 64 + 1) / 8192)))])) t → Steps p.tables e below G t := fun t k => K55 t (X50.laload hx (j := (((wd + (1 : Int64)).toInt32) &&& (8191 : Int32))) (v := .long (W1 (p1.toNatClampNeg * w.toNatClampNeg / 64 + 1))) (by rw [e50]; exact Ar56.1) (State.isArrayOf_alike hZ.alike Ar56.2.1) Ar56.2.2 hin56 hat56 (g := (mkF m 155 #[.val (.ref a1), .val (.int p1), .val (.long v2), .second, .val (.long bt), .second, .val (.long wd), .second, .val (.int sh), .val (.ref (P (p1.toNatClampNeg * w.toNatClampNeg / 64 / 8192))), .val (.int ((wd.toInt32) &&& (8191 : Int32))), .val (.int ((64 : Int32) - sh)), .val (.ref (P ((p1.toNatClampNeg * w.toNatClampNeg / 64 + 1) / 8192))), .val (.int (((wd + (1 : Int64)).toInt32) &&& (8191 : Int32)))] [(.int (((wd + (1 : Int64)).toInt32) &&& (8191 : Int32))), (.ref (P ((p1.toNatClampNeg * w.toNatClampNeg / 64 + 1) / 8192))), (.int (((wd + (1 : Int64)).toInt32) &&& (8191 : Int32))), (.ref (P ((p1.toNatClampNeg * w.toNatClampNeg / 64 + 1) / 8192)))])) rfl rfl (hb hby d11_155) _ k)
      have K58 : ∀ t, Steps p.tables e below (T50.setTop (mkF m 157 #[.val (.ref a1), .val (.int p1), .val (.long v2), .second, .val (.long bt), .second, .val (.long wd), .second, .val (.int sh), .val (.ref (P (p1.toNatClampNeg * w.toNatClampNeg / 64 / 8192))), .val (.int ((wd.toInt32) &&& (8191 : Int32))), .val (.int ((64 : Int32) - sh)), .val (.ref (P ((p1.toNatClampNeg * w.toNatClampNeg / 64 + 1) / 8192))), .val (.int (((wd + (1 : Int64)).toInt32) &&& (8191 : Int32)))] [(.ref a1), (.long (W1 (p1.toNatClampNeg * w.toNatClampNeg / 64 + 1))), (.int (((wd + (1 : Int64)).toInt32) &&& (8191 : Int32))), (.ref (P ((p1.toNatClampNeg * w.toNatClampNeg / 64 + 1) / 8192)))])) t → Steps p.tables e below G t := by
        intro t k
        refine K57 t ?_
        show Steps p.tables e below (T50.setTop (mkF m 156 #[.val (.ref a1), .val (.int p1), .val (.long v2), .second, .val (.long bt), .second, .val (.long wd), .second, .val (.int sh), .val (.ref (P (p1.toNatClampNeg * w.toNatClampNeg / 64 / 8192))), .val (.int ((wd.toInt32) &&& (8191 : Int32))), .val (.int ((64 : Int32) - sh)), .val (.ref (P ((p1.toNatClampNeg * w.toNatClampNeg / 64 + 1) / 8192))), .val (.int (((wd + (1 : Int64)).toInt32) &&& (8191 : Int32)))] [(.long (W1 (p1.toNatClampNeg * w.toNatClampNeg / 64 + 1))), (.int (((wd + (1 : Int64)).toInt32) &&& (8191 : Int32))), (.ref (P ((p1.toNatClampNeg * w.toNatClampNeg / 64 + 1) / 8192)))])) _
        refine XS.aloadN X50.here hx rfl (hb hby d11_156) rfl rfl ?_
        show Steps p.tables e below (T50.setTop (mkF m 157 #[.val (.ref a1), .val (.int p1), .val (.long v2), .second, .val (.long bt), .second, .val (.long wd), .second, .val (.int sh), .val (.ref (P (p1.toNatClampNeg * w.toNatClampNeg / 64 / 8192))), .val (.int ((wd.toInt32) &&& (8191 : Int32))), .val (.int ((64 : Int32) - sh)), .val (.ref (P ((p1.toNatClampNeg * w.toNatClampNeg / 64 + 1) / 8192))), .val (.int (((wd + (1 : Int64)).toInt32) &&& (8191 : Int32)))] [(.ref a1), (.long (W1 (p1.toNatClampNeg * w.toNatClampNeg / 64 + 1))), (.int (((wd + (1 : Int64)).toInt32) &&& (8191 : Int32))), (.ref (P ((p1.toNatClampNeg * w.toNatClampNeg / 64 + 1) / 8192)))])) _
        exact k
      obtain ⟨T59, X59, e59, st59⟩ := getF X50 hx hZ hown (host := "") (Or.inl (hw _ (List.mem_of_getElem? (i := 36) rfl))) Via.refl e50 Fm40 (g := (mkF m 157 #[.val (.ref a1), .val (.int p1), .val (.long v2), .second, .val (.long bt), .second, .val (.long wd), .second, .val (.int sh), .val (.ref (P (p1.toNatClampNeg * w.toNatClampNeg / 64 / 8192))), .val (.int ((wd.toInt32) &&& (8191 : Int32))), .val (.int ((64 : Int32) - sh)), .val (.ref (P ((p1.toNatClampNeg * w.toNatClampNeg / 64 + 1) / 8192))), .val (.int (((wd + (1 : Int64)).toInt32) &&& (8191 : Int32)))] [(.ref a1), (.long (W1 (p1.toNatClampNeg * w.toNatClampNeg / 64 + 1))), (.int (((wd + (1 : Int64)).toInt32) &&& (8191 : Int32))), (.ref (P ((p1.toNatClampNeg * w.toNatClampNeg / 64 + 1) / 8192)))])) rfl rfl (hb hby d11_157)
      have K60 : ∀ t, Steps p.tables e below (T59.setTop (mkF m 160 #[.val (.ref a1), .val (.int p1), .val (.long v2), .second, .val (.long bt), .second, .val (.long wd), .second, .val (.int sh), .val (.ref (P (p1.toNatClampNeg * w.toNatClampNeg / 64 / 8192))), .val (.int ((wd.toInt32) &&& (8191 : Int32))), .val (.int ((64 : Int32) - sh)), .val (.ref (P ((p1.toNatClampNeg * w.toNatClampNeg / 64 + 1) / 8192))), .val (.int (((wd + (1 : Int64)).toInt32) &&& (8191 : Int32)))] [(.long mk), (.long (W1 (p1.toNatClampNeg * w.toNatClampNeg / 64 + 1))), (.int (((wd + (1 : Int64)).toInt32) &&& (8191 : Int32))), (.ref (P ((p1.toNatClampNeg * w.toNatClampNeg / 64 + 1) / 8192)))])) t → Steps p.tables e below G t := fun t k => K58 t (st59 t k)
      have K61 : ∀ t, Steps p.tables e below (T59.setTop (mkF m 173 #[.val (.ref a1), .val (.int p1), .val (.long v2), .second, .val (.long bt), .second, .val (.long wd), .second, .val (.int sh), .val (.ref (P (p1.toNatClampNeg * w.toNatClampNeg / 64 / 8192))), .val (.int ((wd.toInt32) &&& (8191 : Int32))), .val (.int ((64 : Int32) - sh)), .val (.ref (P ((p1.toNatClampNeg * w.toNatClampNeg / 64 + 1) / 8192))), .val (.int (((wd + (1 : Int64)).toInt32) &&& (8191 : Int32)))] [(.long (((W1 (p1.toNatClampNeg * w.toNatClampNeg / 64 + 1)) &&& (((mk.toUInt64 >>> (((64 : Int32) - sh) &&& 0x3f).toInt64.toUInt64).toInt64) ^^^ (-1 : Int64))) ||| ((v2.toUInt64 >>> (((64 : Int32) - sh) &&& 0x3f).toInt64.toUInt64).toInt64))), (.int (((wd + (1 : Int64)).toInt32) &&& (8191 : Int32))), (.ref (P ((p1.toNatClampNeg * w.toNatClampNeg / 64 + 1) / 8192)))])) t → Steps p.tables e below G t := by
        intro t k
        refine K60 t ?_
        show Steps p.tables e below (T59.setTop (mkF m 160 #[.val (.ref a1), .val (.int p1), .val (.long v2), .second, .val (.long bt), .second, .val (.long wd), .second, .val (.int sh), .val (.ref (P (p1.toNatClampNeg * w.toNatClampNeg / 64 / 8192))), .val (.int ((wd.toInt32) &&& (8191 : Int32))), .val (.int ((64 : Int32) - sh)), .val (.ref (P ((p1.toNatClampNeg * w.toNatClampNeg / 64 + 1) / 8192))), .val (.int (((wd + (1 : Int64)).toInt32) &&& (8191 : Int32)))] [(.long mk), (.long (W1 (p1.toNatClampNeg * w.toNatClampNeg / 64 + 1))), (.int (((wd + (1 : Int64)).toInt32) &&& (8191 : Int32))), (.ref (P ((p1.toNatClampNeg * w.toNatClampNeg / 64 + 1) / 8192)))])) _
        refine XS.iload X59.here hx rfl (hb hby d11_160) rfl ?_
        show Steps p.tables e below (T59.setTop (mkF m 162 #[.val (.ref a1), .val (.int p1), .val (.long v2), .second, .val (.long bt), .second, .val (.long wd), .second, .val (.int sh), .val (.ref (P (p1.toNatClampNeg * w.toNatClampNeg / 64 / 8192))), .val (.int ((wd.toInt32) &&& (8191 : Int32))), .val (.int ((64 : Int32) - sh)), .val (.ref (P ((p1.toNatClampNeg * w.toNatClampNeg / 64 + 1) / 8192))), .val (.int (((wd + (1 : Int64)).toInt32) &&& (8191 : Int32)))] [(.int ((64 : Int32) - sh)), (.long mk), (.long (W1 (p1.toNatClampNeg * w.toNatClampNeg / 64 + 1))), (.int (((wd + (1 : Int64)).toInt32) &&& (8191 : Int32))), (.ref (P ((p1.toNatClampNeg * w.toNatClampNeg / 64 + 1) / 8192)))])) _
        refine XS.lushr X59.here hx rfl (hb hby d11_162) rfl ?_
        show Steps p.tables e below (T59.setTop (mkF m 163 #[.val (.ref a1), .val (.int p1), .val (.long v2), .second, .val (.long bt), .second, .val (.long wd), .second, .val (.int sh), .val (.ref (P (p1.toNatClampNeg * w.toNatClampNeg / 64 / 8192))), .val (.int ((wd.toInt32) &&& (8191 : Int32))), .val (.int ((64 : Int32) - sh)), .val (.ref (P ((p1.toNatClampNeg * w.toNatClampNeg / 64 + 1) / 8192))), .val (.int (((wd + (1 : Int64)).toInt32) &&& (8191 : Int32)))] [(.long ((mk.toUInt64 >>> (((64 : Int32) - sh) &&& 0x3f).toInt64.toUInt64).toInt64)), (.long (W1 (p1.toNatClampNeg * w.toNatClampNeg / 64 + 1))), (.int (((wd + (1 : Int64)).toInt32) &&& (8191 : Int32))), (.ref (P ((p1.toNatClampNeg * w.toNatClampNeg / 64 + 1) / 8192)))])) _
        refine X59.ldc2Long hx hown (mvT hZ (hw _ (List.mem_of_getElem? (i := 35) rfl))) (g := (mkF m 163 #[.val (.ref a1), .val (.int p1), .val (.long v2), .second, .val (.long bt), .second, .val (.long wd), .second, .val (.int sh), .val (.ref (P (p1.toNatClampNeg * w.toNatClampNeg / 64 / 8192))), .val (.int ((wd.toInt32) &&& (8191 : Int32))), .val (.int ((64 : Int32) - sh)), .val (.ref (P ((p1.toNatClampNeg * w.toNatClampNeg / 64 + 1) / 8192))), .val (.int (((wd + (1 : Int64)).toInt32) &&& (8191 : Int32)))] [(.long ((mk.toUInt64 >>> (((64 : Int32) - sh) &&& 0x3f).toInt64.toUInt64).toInt64)), (.long (W1 (p1.toNatClampNeg * w.toNatClampNeg / 64 + 1))), (.int (((wd + (1 : Int64)).toInt32) &&& (8191 : Int32))), (.ref (P ((p1.toNatClampNeg * w.toNatClampNeg / 64 + 1) / 8192)))])) rfl (hb hby d11_163) _ ?_
        show Steps p.tables e below (T59.setTop (mkF m 166 #[.val (.ref a1), .val (.int p1), .val (.long v2), .second, .val (.long bt), .second, .val (.long wd), .second, .val (.int sh), .val (.ref (P (p1.toNatClampNeg * w.toNatClampNeg / 64 / 8192))), .val (.int ((wd.toInt32) &&& (8191 : Int32))), .val (.int ((64 : Int32) - sh)), .val (.ref (P ((p1.toNatClampNeg * w.toNatClampNeg / 64 + 1) / 8192))), .val (.int (((wd + (1 : Int64)).toInt32) &&& (8191 : Int32)))] [(.long (-1 : Int64)), (.long ((mk.toUInt64 >>> (((64 : Int32) - sh) &&& 0x3f).toInt64.toUInt64).toInt64)), (.long (W1 (p1.toNatClampNeg * w.toNatClampNeg / 64 + 1))), (.int (((wd + (1 : Int64)).toInt32) &&& (8191 : Int32))), (.ref (P ((p1.toNatClampNeg * w.toNatClampNeg / 64 + 1) / 8192)))])) _
        refine XS.lxor X59.here hx rfl (hb hby d11_166) rfl ?_
        show Steps p.tables e below (T59.setTop (mkF m 167 #[.val (.ref a1), .val (.int p1), .val (.long v2), .second, .val (.long bt), .second, .val (.long wd), .second, .val (.int sh), .val (.ref (P (p1.toNatClampNeg * w.toNatClampNeg / 64 / 8192))), .val (.int ((wd.toInt32) &&& (8191 : Int32))), .val (.int ((64 : Int32) - sh)), .val (.ref (P ((p1.toNatClampNeg * w.toNatClampNeg / 64 + 1) / 8192))), .val (.int (((wd + (1 : Int64)).toInt32) &&& (8191 : Int32)))] [(.long (((mk.toUInt64 >>> (((64 : Int32) - sh) &&& 0x3f).toInt64.toUInt64).toInt64) ^^^ (-1 : Int64))), (.long (W1 (p1.toNatClampNeg * w.toNatClampNeg / 64 + 1))), (.int (((wd + (1 : Int64)).toInt32) &&& (8191 : Int32))), (.ref (P ((p1.toNatClampNeg * w.toNatClampNeg / 64 + 1) / 8192)))])) _
        refine XS.land X59.here hx rfl (hb hby d11_167) rfl ?_
        show Steps p.tables e below (T59.setTop (mkF m 168 #[.val (.ref a1), .val (.int p1), .val (.long v2), .second, .val (.long bt), .second, .val (.long wd), .second, .val (.int sh), .val (.ref (P (p1.toNatClampNeg * w.toNatClampNeg / 64 / 8192))), .val (.int ((wd.toInt32) &&& (8191 : Int32))), .val (.int ((64 : Int32) - sh)), .val (.ref (P ((p1.toNatClampNeg * w.toNatClampNeg / 64 + 1) / 8192))), .val (.int (((wd + (1 : Int64)).toInt32) &&& (8191 : Int32)))] [(.long ((W1 (p1.toNatClampNeg * w.toNatClampNeg / 64 + 1)) &&& (((mk.toUInt64 >>> (((64 : Int32) - sh) &&& 0x3f).toInt64.toUInt64).toInt64) ^^^ (-1 : Int64)))), (.int (((wd + (1 : Int64)).toInt32) &&& (8191 : Int32))), (.ref (P ((p1.toNatClampNeg * w.toNatClampNeg / 64 + 1) / 8192)))])) _
        refine XS.lloadN X59.here hx rfl (hb hby d11_168) rfl ?_
        show Steps p.tables e below (T59.setTop (mkF m 169 #[.val (.ref a1), .val (.int p1), .val (.long v2), .second, .val (.long bt), .second, .val (.long wd), .second, .val (.int sh), .val (.ref (P (p1.toNatClampNeg * w.toNatClampNeg / 64 / 8192))), .val (.int ((wd.toInt32) &&& (8191 : Int32))), .val (.int ((64 : Int32) - sh)), .val (.ref (P ((p1.toNatClampNeg * w.toNatClampNeg / 64 + 1) / 8192))), .val (.int (((wd + (1 : Int64)).toInt32) &&& (8191 : Int32)))] [(.long v2), (.long ((W1 (p1.toNatClampNeg * w.toNatClampNeg / 64 + 1)) &&& (((mk.toUInt64 >>> (((64 : Int32) - sh) &&& 0x3f).toInt64.toUInt64).toInt64) ^^^ (-1 : Int64)))), (.int (((wd + (1 : Int64)).toInt32) &&& (8191 : Int32))), (.ref (P ((p1.toNatClampNeg * w.toNatClampNeg / 64 + 1) / 8192)))])) _
        refine XS.iload X59.here hx rfl (hb hby d11_169) rfl ?_
        show Steps p.tables e below (T59.setTop (mkF m 171 #[.val (.ref a1), .val (.int p1), .val (.long v2), .second, .val (.long bt), .second, .val (.long wd), .second, .val (.int sh), .val (.ref (P (p1.toNatClampNeg * w.toNatClampNeg / 64 / 8192))), .val (.int ((wd.toInt32) &&& (8191 : Int32))), .val (.int ((64 : Int32) - sh)), .val (.ref (P ((p1.toNatClampNeg * w.toNatClampNeg / 64 + 1) / 8192))), .val (.int (((wd + (1 : Int64)).toInt32) &&& (8191 : Int32)))] [(.int ((64 : Int32) - sh)), (.long v2), (.long ((W1 (p1.toNatClampNeg * w.toNatClampNeg / 64 + 1)) &&& (((mk.toUInt64 >>> (((64 : Int32) - sh) &&& 0x3f).toInt64.toUInt64).toInt64) ^^^ (-1 : Int64)))), (.int (((wd + (1 : Int64)).toInt32) &&& (8191 : Int32))), (.ref (P ((p1.toNatClampNeg * w.toNatClampNeg / 64 + 1) / 8192)))])) _
        refine XS.lushr X59.here hx rfl (hb hby d11_171) rfl ?_
        show Steps p.tables e below (T59.setTop (mkF m 172 #[.val (.ref a1), .val (.int p1), .val (.long v2), .second, .val (.long bt), .second, .val (.long wd), .second, .val (.int sh), .val (.ref (P (p1.toNatClampNeg * w.toNatClampNeg / 64 / 8192))), .val (.int ((wd.toInt32) &&& (8191 : Int32))), .val (.int ((64 : Int32) - sh)), .val (.ref (P ((p1.toNatClampNeg * w.toNatClampNeg / 64 + 1) / 8192))), .val (.int (((wd + (1 : Int64)).toInt32) &&& (8191 : Int32)))] [(.long ((v2.toUInt64 >>> (((64 : Int32) - sh) &&& 0x3f).toInt64.toUInt64).toInt64)), (.long ((W1 (p1.toNatClampNeg * w.toNatClampNeg / 64 + 1)) &&& (((mk.toUInt64 >>> (((64 : Int32) - sh) &&& 0x3f).toInt64.toUInt64).toInt64) ^^^ (-1 : Int64)))), (.int (((wd + (1 : Int64)).toInt32) &&& (8191 : Int32))), (.ref (P ((p1.toNatClampNeg * w.toNatClampNeg / 64 + 1) / 8192)))])) _
        refine XS.lor X59.here hx rfl (hb hby d11_172) rfl ?_
        show Steps p.tables e below (T59.setTop (mkF m 173 #[.val (.ref a1), .val (.int p1), .val (.long v2), .second, .val (.long bt), .second, .val (.long wd), .second, .val (.int sh), .val (.ref (P (p1.toNatClampNeg * w.toNatClampNeg / 64 / 8192))), .val (.int ((wd.toInt32) &&& (8191 : Int32))), .val (.int ((64 : Int32) - sh)), .val (.ref (P ((p1.toNatClampNeg * w.toNatClampNeg / 64 + 1) / 8192))), .val (.int (((wd + (1 : Int64)).toInt32) &&& (8191 : Int32)))] [(.long (((W1 (p1.toNatClampNeg * w.toNatClampNeg / 64 + 1)) &&& (((mk.toUInt64 >>> (((64 : Int32) - sh) &&& 0x3f).toInt64.toUInt64).toInt64) ^^^ (-1 : Int64))) ||| ((v2.toUInt64 >>> (((64 : Int32) - sh) &&& 0x3f).toInt64.toUInt64).toInt64))), (.int (((wd + (1 : Int64)).toInt32) &&& (8191 : Int32))), (.ref (P ((p1.toNatClampNeg * w.toNatClampNeg / 64 + 1) / 8192)))])) _
        exact k
      obtain ⟨cl62, Ar62, Sz62, Hv62⟩ := (HA40 _ ok2.1).1
      obtain ⟨hin62, hjn62⟩ := own_inp (j := (((wd + (1 : Int64)).toInt32) &&& (8191 : Int32))) (q := (p1.toNatClampNeg * w.toNatClampNeg / 64 + 1) % 8192) hj4 ok2.2 cl62 Sz62
      obtain ⟨T62, h62, X62, e62, W62, st62⟩ := stJ X59 hx hZ e59 Ar62 (j := (((wd + (1 : Int64)).toInt32) &&& (8191 : Int32))) hin62 (g := (mkF m 173 #[.val (.ref a1), .val (.int p1), .val (.long v2), .second, .val (.long bt), .second, .val (.long wd), .second, .val (.int sh), .val (.ref (P (p1.toNatClampNeg * w.toNatClampNeg / 64 / 8192))), .val (.int ((wd.toInt32) &&& (8191 : Int32))), .val (.int ((64 : Int32) - sh)), .val (.ref (P ((p1.toNatClampNeg * w.toNatClampNeg / 64 + 1) / 8192))), .val (.int (((wd + (1 : Int64)).toInt32) &&& (8191 : Int32)))] [(.long (((W1 (p1.toNatClampNeg * w.toNatClampNeg / 64 + 1)) &&& (((mk.toUInt64 >>> (((64 : Int32) - sh) &&& 0x3f).toInt64.toUInt64).toInt64) ^^^ (-1 : Int64))) ||| ((v2.toUInt64 >>> (((64 : Int32) - sh) &&& 0x3f).toInt64.toUInt64).toInt64))), (.int (((wd + (1 : Int64)).toInt32) &&& (8191 : Int32))), (.ref (P ((p1.toNatClampNeg * w.toNatClampNeg / 64 + 1) / 8192)))])) rfl rfl (hb hby d11_173)
      rw [hjn62] at W62
      have S62 := own_St_wr S40 ok2.1 (Nat.mod_lt _ (by decide)) W62
      rw [Nat.div_add_mod] at S62
      obtain ⟨W2, h_W2⟩ : ∃ F : Nat → Int64, F = (fun n => if n = p1.toNatClampNeg * w.toNatClampNeg / 64 + 1 then (((W1 (p1.toNatClampNeg * w.toNatClampNeg / 64 + 1)) &&& (((mk.toUInt64 >>> (((64 : Int32) - sh) &&& 0x3f).toInt64.toUInt64).toInt64) ^^^ (-1 : Int64))) ||| ((v2.toUInt64 >>> (((64 : Int32) - sh) &&& 0x3f).toInt64.toUInt64).toInt64)) else W1 n) := ⟨_, rfl⟩
      rw [← h_W2] at S62
      have N62 := Fr.snoc X62 N40 (HA40 _ ok2.1).2.2.2.1
      have K63 : ∀ t, Steps p.tables e below (T62.setTop (mkF m 174 #[.val (.ref a1), .val (.int p1), .val (.long v2), .second, .val (.long bt), .second, .val (.long wd), .second, .val (.int sh), .val (.ref (P (p1.toNatClampNeg * w.toNatClampNeg / 64 / 8192))), .val (.int ((wd.toInt32) &&& (8191 : Int32))), .val (.int ((64 : Int32) - sh)), .val (.ref (P ((p1.toNatClampNeg * w.toNatClampNeg / 64 + 1) / 8192))), .val (.int (((wd + (1 : Int64)).toInt32) &&& (8191 : Int32)))] [])) t → Steps p.tables e below G t := fun t k => K61 t (st62 t k)
      have Z64 : n0 ≤ h62.size := Nat.le_trans Z42 (Keep.of_wr W62).1
      obtain ⟨Es62, Fw62, Fm62, Fp62, ⟨cp62, Ap62, Sp62, Hp62⟩, HA62, inj62⟩ := id S62
      obtain ⟨fs, hr, hrun, hended, hW, hsame⟩ := X62.leave (v := none) (fun _ => rfl)
      have KF := K63
      rw [hG] at KF
      refine ⟨_, _, KF _ ?_, hrun, hended, _, _, rfl, ?_, ⟨_, rfl⟩, hW, hsame.mono (by decide) (by decide)⟩
      · show Steps p.tables e below (T62.setTop (mkF m 174 #[.val (.ref a1), .val (.int p1), .val (.long v2), .second, .val (.long bt), .second, .val (.long wd), .second, .val (.int sh), .val (.ref (P (p1.toNatClampNeg * w.toNatClampNeg / 64 / 8192))), .val (.int ((wd.toInt32) &&& (8191 : Int32))), .val (.int ((64 : Int32) - sh)), .val (.ref (P ((p1.toNatClampNeg * w.toNatClampNeg / 64 + 1) / 8192))), .val (.int (((wd + (1 : Int64)).toInt32) &&& (8191 : Int32)))] [])) _
        exact X62.returnOut hx Bd.returns (hb hby d11_174) hr
      · show Q11 Z a1 ps np P ln w mk W p1 v2 h0 n0 _ T62.heap _
        rw [e62]
        refine ⟨W2, rfl, N62, S62, Z64, ?_⟩
        funext n
        have e1 := own_W1 W w.toNatClampNeg (p1.toNatClampNeg * w.toNatClampNeg) mk v2 sh es hm
        have e2 := own_W2 (W1 (p1.toNatClampNeg * w.toNatClampNeg / 64 + 1)) w.toNatClampNeg (p1.toNatClampNeg * w.toNatClampNeg) mk v2 sh es h0s hm
        have f1 : (fun n => (W1 n).toBitVec) = own_upd (fun n => (W n).toBitVec) (p1.toNatClampNeg * w.toNatClampNeg / 64) ((W (p1.toNatClampNeg * w.toNatClampNeg / 64)).toBitVec &&& ~~~(own_mask w.toNatClampNeg <<< (p1.toNatClampNeg * w.toNatClampNeg % 64)) ||| v2.toBitVec <<< (p1.toNatClampNeg * w.toNatClampNeg % 64)) := by
          funext n; rw [h_W1]; simp only [own_upd]; by_cases q : n = p1.toNatClampNeg * w.toNatClampNeg / 64
          · rw [if_pos q, if_pos q]; exact e1
          · rw [if_neg q, if_neg q]
        simp only [own_setW]
        rw [if_pos hcr, ← f1]
        simp only [own_upd]
        rw [h_W2]
        show (if n = p1.toNatClampNeg * w.toNatClampNeg / 64 + 1 then _ else W1 n).toBitVec = _
        by_cases q : n = p1.toNatClampNeg * w.toNatClampNeg / 64 + 1
        · rw [if_pos q, if_pos q]; exact e2
        · rw [if_neg q, if_neg q]
    · obtain ⟨fs, hr, hrun, hended, hW, hsame⟩ := X44.leave (v := none) (fun _ => rfl)
      have KF := K46
      rw [hG] at KF
      refine ⟨_, _, KF _ ?_, hrun, hended, _, _, rfl, ?_, ⟨_, rfl⟩, hW, hsame.mono (by decide) (by decide)⟩
      · show Steps p.tables e below (T44.setTop (mkF m 111 #[.val (.ref a1), .val (.int p1), .val (.long v2), .second, .val (.long bt), .second, .val (.long wd), .second, .val (.int sh), .val (.ref (P (p1.toNatClampNeg * w.toNatClampNeg / 64 / 8192))), .val (.int ((wd.toInt32) &&& (8191 : Int32))), .unset, .unset, .unset] [(.int (64 : Int32)), (.int (sh + w))])) _
        refine XS.icmpYes X44.here hx rfl (pc0 := 111) (pc' := 174) rfl (hb hby d11_111) rfl (flt hc47).2.2.2 (by decide) (by decide) ?_
        show Steps p.tables e below (T44.setTop (mkF m 174 #[.val (.ref a1), .val (.int p1), .val (.long v2), .second, .val (.long bt), .second, .val (.long wd), .second, .val (.int sh), .val (.ref (P (p1.toNatClampNeg * w.toNatClampNeg / 64 / 8192))), .val (.int ((wd.toInt32) &&& (8191 : Int32))), .unset, .unset, .unset] [])) _
        exact X44.returnOut hx Bd.returns (hb hby d11_174) hr
      · show Q11 Z a1 ps np P ln w mk W p1 v2 h0 n0 _ T44.heap _
        rw [e44]
        refine ⟨W1, rfl, N40, S40, Z42, ?_⟩
        funext n
        have e1 := own_W1 W w.toNatClampNeg (p1.toNatClampNeg * w.toNatClampNeg) mk v2 sh es hm
        simp only [own_setW]
        rw [if_neg (fun q => hc47 ((own_cross es hwd).mpr q))]
        rw [h_W1]; simp only [own_upd]; by_cases q : n = p1.toNatClampNeg * w.toNatClampNeg / 64
        · rw [if_pos q, if_pos q]; exact e1
        · rw [if_neg q, if_neg q]
def Q12 (w : Int32) (W : Nat → Int64) (p1 : Int32) (h0 : Heap) (n0 : Nat) (v : Option Value) (h : Heap) (L : List Loc) : Prop := ∃ r : Int64, v = some (.long r) ∧ Fr n0 L ∧ h = h0 ∧ r.toBitVec = own_getW (fun n => (W n).toBitVec) (p1.toNatClampNeg * w.toNatClampNeg) w.toNatClampNeg
theorem d12_0 : decode prog_26_method_9_code 0 = .ok (.iload_n 1, 1) := by decide +kernel
theorem d12_1 : decode prog_26_method_9_code 1 = .ok (.i2l, 1) := by decide +kernel
theorem d12_2 : decode prog_26_method_9_code 2 = .ok (.aload_n 0, 1) := by decide +kernel
theorem d12_3 : decode prog_26_method_9_code 3 = .ok (.getfield 30, 3) := by decide +kernel
theorem d12_6 : decode prog_26_method_9_code 6 = .ok (.i2l, 1) := by decide +kernel
theorem d12_7 : decode prog_26_method_9_code 7 = .ok (.lmul, 1) := by decide +kernel
theorem d12_8 : decode prog_26_method_9_code 8 = .ok (.lstore_n 2, 1) := by decide +kernel
theorem d12_9 : decode prog_26_method_9_code 9 = .ok (.lload_n 2, 1) := by decide +kernel
theorem d12_10 : decode prog_26_method_9_code 10 = .ok (.ldc2_w 55, 3) := by decide +kernel
theorem d12_13 : decode prog_26_method_9_code 13 = .ok (.ldiv, 1) := by decide +kernel
theorem d12_14 : decode prog_26_method_9_code 14 = .ok (.lstore 4, 2) := by decide +kernel
theorem d12_16 : decode prog_26_method_9_code 16 = .ok (.lload_n 2, 1) := by decide +kernel
theorem d12_17 : decode prog_26_method_9_code 17 = .ok (.ldc2_w 55, 3) := by decide +kernel
theorem d12_20 : decode prog_26_method_9_code 20 = .ok (.lrem, 1) := by decide +kernel
theorem d12_21 : decode prog_26_method_9_code 21 = .ok (.l2i, 1) := by decide +kernel
theorem d12_22 : decode prog_26_method_9_code 22 = .ok (.istore 6, 2) := by decide +kernel
theorem d12_24 : decode prog_26_method_9_code 24 = .ok (.aload_n 0, 1) := by decide +kernel
theorem d12_25 : decode prog_26_method_9_code 25 = .ok (.getfield 47, 3) := by decide +kernel
theorem d12_28 : decode prog_26_method_9_code 28 = .ok (.lload 4, 2) := by decide +kernel
theorem d12_30 : decode prog_26_method_9_code 30 = .ok (.bipush 13, 2) := by decide +kernel
theorem d12_32 : decode prog_26_method_9_code 32 = .ok (.lushr, 1) := by decide +kernel
theorem d12_33 : decode prog_26_method_9_code 33 = .ok (.l2i, 1) := by decide +kernel
theorem d12_34 : decode prog_26_method_9_code 34 = .ok (.aaload, 1) := by decide +kernel
theorem d12_35 : decode prog_26_method_9_code 35 = .ok (.lload 4, 2) := by decide +kernel
theorem d12_37 : decode prog_26_method_9_code 37 = .ok (.l2i, 1) := by decide +kernel
theorem d12_38 : decode prog_26_method_9_code 38 = .ok (.sipush 8191, 3) := by decide +kernel
theorem d12_41 : decode prog_26_method_9_code 41 = .ok (.iand, 1) := by decide +kernel
theorem d12_42 : decode prog_26_method_9_code 42 = .ok (.laload, 1) := by decide +kernel
theorem d12_43 : decode prog_26_method_9_code 43 = .ok (.iload 6, 2) := by decide +kernel
theorem d12_45 : decode prog_26_method_9_code 45 = .ok (.lushr, 1) := by decide +kernel
theorem d12_46 : decode prog_26_method_9_code 46 = .ok (.lstore 7, 2) := by decide +kernel
theorem d12_48 : decode prog_26_method_9_code 48 = .ok (.iload 6, 2) := by decide +kernel
theorem d12_50 : decode prog_26_method_9_code 50 = .ok (.aload_n 0, 1) := by decide +kernel
theorem d12_51 : decode prog_26_method_9_code 51 = .ok (.getfield 30, 3) := by decide +kernel
theorem d12_54 : decode prog_26_method_9_code 54 = .ok (.iadd, 1) := by decide +kernel
theorem d12_55 : decode prog_26_method_9_code 55 = .ok (.bipush 64, 2) := by decide +kernel
theorem d12_57 : decode prog_26_method_9_code 57 = .ok (.if_icmp .le 37, 3) := by decide +kernel
theorem d12_60 : decode prog_26_method_9_code 60 = .ok (.lload 7, 2) := by decide +kernel
theorem d12_62 : decode prog_26_method_9_code 62 = .ok (.aload_n 0, 1) := by decide +kernel
theorem d12_63 : decode prog_26_method_9_code 63 = .ok (.getfield 47, 3) := by decide +kernel
theorem d12_66 : decode prog_26_method_9_code 66 = .ok (.lload 4, 2) := by decide +kernel
theorem d12_68 : decode prog_26_method_9_code 68 = .ok (.lconst 1, 1) := by decide +kernel
theorem d12_69 : decode prog_26_method_9_code 69 = .ok (.ladd, 1) := by decide +kernel
theorem d12_70 : decode prog_26_method_9_code 70 = .ok (.bipush 13, 2) := by decide +kernel
theorem d12_72 : decode prog_26_method_9_code 72 = .ok (.lushr, 1) := by decide +kernel
theorem d12_73 : decode prog_26_method_9_code 73 = .ok (.l2i, 1) := by decide +kernel
theorem d12_74 : decode prog_26_method_9_code 74 = .ok (.aaload, 1) := by decide +kernel
theorem d12_75 : decode prog_26_method_9_code 75 = .ok (.lload 4, 2) := by decide +kernel
theorem d12_77 : decode prog_26_method_9_code 77 = .ok (.lconst 1, 1) := by decide +kernel
theorem d12_78 : decode prog_26_method_9_code 78 = .ok (.ladd, 1) := by decide +kernel
theorem d12_79 : decode prog_26_method_9_code 79 = .ok (.l2i, 1) := by decide +kernel
theorem d12_80 : decode prog_26_method_9_code 80 = .ok (.sipush 8191, 3) := by decide +kernel
theorem d12_83 : decode prog_26_method_9_code 83 = .ok (.iand, 1) := by decide +kernel
theorem d12_84 : decode prog_26_method_9_code 84 = .ok (.laload, 1) := by decide +kernel
theorem d12_85 : decode prog_26_method_9_code 85 = .ok (.bipush 64, 2) := by decide +kernel
theorem d12_87 : decode prog_26_method_9_code 87 = .ok (.iload 6, 2) := by decide +kernel
theorem d12_89 : decode prog_26_method_9_code 89 = .ok (.isub, 1) := by decide +kernel
theorem d12_90 : decode prog_26_method_9_code 90 = .ok (.lshl, 1) := by decide +kernel
theorem d12_91 : decode prog_26_method_9_code 91 = .ok (.lor, 1) := by decide +kernel
theorem d12_92 : decode prog_26_method_9_code 92 = .ok (.lstore 7, 2) := by decide +kernel
theorem d12_94 : decode prog_26_method_9_code 94 = .ok (.lload 7, 2) := by decide +kernel
theorem d12_96 : decode prog_26_method_9_code 96 = .ok (.aload_n 0, 1) := by decide +kernel
theorem d12_97 : decode prog_26_method_9_code 97 = .ok (.getfield 35, 3) := by decide +kernel
theorem d12_100 : decode prog_26_method_9_code 100 = .ok (.land, 1) := by decide +kernel
theorem d12_101 : decode prog_26_method_9_code 101 = .ok (.lreturn, 1) := by decide +kernel
theorem ef_rm12 (m : MethodId) (x0 : Addr) (x1 : Int32) : entryFrame m #[(.ref x0), (.int x1)] 9 = mkF m 0 #[.val (.ref x0), .val (.int x1), .unset, .unset, .unset, .unset, .unset, .unset, .unset] [] := by first | (simp [entryFrame, mkF, argsToLocals, Value.category]; done) | rfl
set_option maxRecDepth 65536 in
set_option maxHeartbeats 40000000 in
theorem rm12 (l : Launch) (Z : State) (a0 : Array Value) (hw : ∀ d ∈ tables_1, d.before a0 Z = true) (ws : List Jvm.Cond) (a1 ps : Addr) (np : Nat) (P : Nat → Addr) (ln : Nat → Nat) (w : Int32) (mk : Int64) (W : Nat → Int64) (p1 : Int32) (sz : Nat) (h0 : Heap) (n0 : Nat) (Z0 : n0 ≤ h0.size) (S0 : own_St Z h0 n0 a1 ps np P ln w mk W) (hwd : 1 ≤ w.toInt ∧ w.toInt ≤ 64) (hm : mk.toBitVec = own_mask w.toNatClampNeg) (hok : own_ok np ln (sz * w.toNatClampNeg)) (hi : 0 ≤ p1.toInt ∧ p1.toInt < 1048576) (his : p1.toNatClampNeg < sz) :
    MetFree l (⟨"com/example/holdover/holdover/analysis/FixedWidthLongs", "get", "(I)J"⟩ : MethodName) (head1 (Jvm.Cond.code (⟨"com/example/holdover/holdover/analysis/FixedWidthLongs", "get", "(I)J"⟩ : MethodName) prog_26_method_9_code 9 (some .long) :: ws) ({ frames := 0, cells := 0, slots := 0, locals := 0 } : Room)) (fun a U => a = #[(.ref a1), (.int p1)] ∧ Z.Warmed39 U.vm ∧ U.heap = h0) (fun _ _ _ _ _ => True) (fun _ U o U' => ∃ v L, o = .returned v ∧ Q12 w W p1 h0 n0 v U'.heap L ∧ FrameEnd U o U' L ({ frames := 0, cells := 0, slots := 0, locals := 0 } : Room).cells ({ frames := 0, cells := 0, slots := 0, locals := 0 } : Room).slots) := by
  refine MetFree.of_bodySF (plainFor_of_name pn_com_example_holdover_holdover_analysis_FixedWidthLongs) hisR ?_
  intro p e s m args below meth c s₁ Bd hml0 hP hK
  obtain ⟨rfl, hZ, hh⟩ := hP
  have hx := Bd.exec
  have hby := Bd.bytes
  have hml : c.maxLocals = 9 := hml0
  have hown : s.vm.findClass "com/example/holdover/holdover/analysis/FixedWidthLongs" = some m.cls := findClass_of_methodNamed Bd.named
  have hnm := (name_of_methodNamed Bd.named Bd.method).1
  have X0 : Stand p l e ({ frames := 0, cells := 0, slots := 0, locals := 0 } : Room) s m #[(.ref a1), (.int p1)] below meth c s₁ [] 0 0 := Stand.of_body Bd
  have e0 : s₁.heap = h0 := by rw [← hh, Bd.state]; rfl
  have N0 := Fr.nil n0
  have KP0 : Keep h0 h0 [] := Keep.refl h0 _
  obtain ⟨G, hG⟩ : ∃ G : State, G = s₁.setTop (entryFrame m #[(.ref a1), (.int p1)] 9) := ⟨_, rfl⟩
  have pre0 : ∀ t, Steps p.tables e below (s₁.setTop (mkF m 0 #[.val (.ref a1), .val (.int p1), .unset, .unset, .unset, .unset, .unset, .unset, .unset] [])) t → Steps p.tables e below G t := fun t k => hG ▸ castTop (ef_rm12 m a1 p1) k
  obtain ⟨Es0, Fw0, Fm0, Fp0, ⟨cp0, Ap0, Sp0, Hp0⟩, HA0, inj0⟩ := id S0
  have hw1 : 1 ≤ w.toNatClampNeg := by have := own_nn (show 0 ≤ w.toInt by omega); omega
  have hw64 : w.toNatClampNeg ≤ 64 := by have := own_nn (show 0 ≤ w.toInt by omega); omega
  have ok1 := hok _ (own_in1 his hw1)
  have hni := own_nn hi.1
  have K1 : ∀ t, Steps p.tables e below (s₁.setTop (mkF m 3 #[.val (.ref a1), .val (.int p1), .unset, .unset, .unset, .unset, .unset, .unset, .unset] [(.ref a1), (.long (p1.toInt64))])) t → Steps p.tables e below G t := by
    intro t k
    refine pre0 t ?_
    show Steps p.tables e below (s₁.setTop (mkF m 0 #[.val (.ref a1), .val (.int p1), .unset, .unset, .unset, .unset, .unset, .unset, .unset] [])) _
    refine XS.iloadN X0.here hx rfl (hb hby d12_0) rfl ?_
    show Steps p.tables e below (s₁.setTop (mkF m 1 #[.val (.ref a1), .val (.int p1), .unset, .unset, .unset, .unset, .unset, .unset, .unset] [(.int p1)])) _
    refine XS.i2l X0.here hx rfl (hb hby d12_1) rfl ?_
    show Steps p.tables e below (s₁.setTop (mkF m 2 #[.val (.ref a1), .val (.int p1), .unset, .unset, .unset, .unset, .unset, .unset, .unset] [(.long (p1.toInt64))])) _
    refine XS.aloadN X0.here hx rfl (hb hby d12_2) rfl rfl ?_
    show Steps p.tables e below (s₁.setTop (mkF m 3 #[.val (.ref a1), .val (.int p1), .unset, .unset, .unset, .unset, .unset, .unset, .unset] [(.ref a1), (.long (p1.toInt64))])) _
    exact k
  obtain ⟨T2, X2, e2, st2⟩ := getF X0 hx hZ hown (host := "") (Or.inl (hw _ (List.mem_of_getElem? (i := 33) rfl))) Via.refl e0 Fw0 (g := (mkF m 3 #[.val (.ref a1), .val (.int p1), .unset, .unset, .unset, .unset, .unset, .unset, .unset] [(.ref a1), (.long (p1.toInt64))])) rfl rfl (hb hby d12_3)
  have K3 : ∀ t, Steps p.tables e below (T2.setTop (mkF m 6 #[.val (.ref a1), .val (.int p1), .unset, .unset, .unset, .unset, .unset, .unset, .unset] [(.int w), (.long (p1.toInt64))])) t → Steps p.tables e below G t := fun t k => K1 t (st2 t k)
  have K4 : ∀ t, Steps p.tables e below (T2.setTop (mkF m 8 #[.val (.ref a1), .val (.int p1), .unset, .unset, .unset, .unset, .unset, .unset, .unset] [(.long ((p1.toInt64) * (w.toInt64)))])) t → Steps p.tables e below G t := by
    intro t k
    refine K3 t ?_
    show Steps p.tables e below (T2.setTop (mkF m 6 #[.val (.ref a1), .val (.int p1), .unset, .unset, .unset, .unset, .unset, .unset, .unset] [(.int w), (.long (p1.toInt64))])) _
    refine XS.i2l X2.here hx rfl (hb hby d12_6) rfl ?_
    show Steps p.tables e below (T2.setTop (mkF m 7 #[.val (.ref a1), .val (.int p1), .unset, .unset, .unset, .unset, .unset, .unset, .unset] [(.long (w.toInt64)), (.long (p1.toInt64))])) _
    refine XS.lmul X2.here hx rfl (hb hby d12_7) rfl ?_
    show Steps p.tables e below (T2.setTop (mkF m 8 #[.val (.ref a1), .val (.int p1), .unset, .unset, .unset, .unset, .unset, .unset, .unset] [(.long ((p1.toInt64) * (w.toInt64)))])) _
    exact k
  obtain ⟨bt, h_bt⟩ : ∃ z : Int64, z = ((p1.toInt64) * (w.toInt64)) := ⟨_, rfl⟩
  have K5 : ∀ t, Steps p.tables e below (T2.setTop (mkF m 8 #[.val (.ref a1), .val (.int p1), .unset, .unset, .unset, .unset, .unset, .unset, .unset] [(.long bt)])) t → Steps p.tables e below G t := by rw [h_bt]; exact K4
  have K6 : ∀ t, Steps p.tables e below (T2.setTop (mkF m 14 #[.val (.ref a1), .val (.int p1), .val (.long bt), .second, .unset, .unset, .unset, .unset, .unset] [(.long (bt / (64 : Int64)))])) t → Steps p.tables e below G t := by
    intro t k
    refine K5 t ?_
    show Steps p.tables e below (T2.setTop (mkF m 8 #[.val (.ref a1), .val (.int p1), .unset, .unset, .unset, .unset, .unset, .unset, .unset] [(.long bt)])) _
    refine XS.lstoreN X2.here hx rfl (hb hby d12_8) rfl (l' := #[.val (.ref a1), .val (.int p1), .val (.long bt), .second, .unset, .unset, .unset, .unset, .unset]) rfl ?_
    show Steps p.tables e below (T2.setTop (mkF m 9 #[.val (.ref a1), .val (.int p1), .val (.long bt), .second, .unset, .unset, .unset, .unset, .unset] [])) _
    refine XS.lloadN X2.here hx rfl (hb hby d12_9) rfl ?_
    show Steps p.tables e below (T2.setTop (mkF m 10 #[.val (.ref a1), .val (.int p1), .val (.long bt), .second, .unset, .unset, .unset, .unset, .unset] [(.long bt)])) _
    refine X2.ldc2Long hx hown (mvT hZ (hw _ (List.mem_of_getElem? (i := 42) rfl))) (g := (mkF m 10 #[.val (.ref a1), .val (.int p1), .val (.long bt), .second, .unset, .unset, .unset, .unset, .unset] [(.long bt)])) rfl (hb hby d12_10) _ ?_
    show Steps p.tables e below (T2.setTop (mkF m 13 #[.val (.ref a1), .val (.int p1), .val (.long bt), .second, .unset, .unset, .unset, .unset, .unset] [(.long (64 : Int64)), (.long bt)])) _
    refine XS.ldiv X2.here hx rfl (hb hby d12_13) rfl (by decide) ?_
    show Steps p.tables e below (T2.setTop (mkF m 14 #[.val (.ref a1), .val (.int p1), .val (.long bt), .second, .unset, .unset, .unset, .unset, .unset] [(.long (bt / (64 : Int64)))])) _
    exact k
  obtain ⟨wd, h_wd⟩ : ∃ z : Int64, z = (bt / (64 : Int64)) := ⟨_, rfl⟩
  have K7 : ∀ t, Steps p.tables e below (T2.setTop (mkF m 14 #[.val (.ref a1), .val (.int p1), .val (.long bt), .second, .unset, .unset, .unset, .unset, .unset] [(.long wd)])) t → Steps p.tables e below G t := by rw [h_wd]; exact K6
  have K8 : ∀ t, Steps p.tables e below (T2.setTop (mkF m 22 #[.val (.ref a1), .val (.int p1), .val (.long bt), .second, .val (.long wd), .second, .unset, .unset, .unset] [(.int ((bt % (64 : Int64)).toInt32))])) t → Steps p.tables e below G t := by
    intro t k
    refine K7 t ?_
    show Steps p.tables e below (T2.setTop (mkF m 14 #[.val (.ref a1), .val (.int p1), .val (.long bt), .second, .unset, .unset, .unset, .unset, .unset] [(.long wd)])) _
    refine XS.lstore X2.here hx rfl (hb hby d12_14) rfl (l' := #[.val (.ref a1), .val (.int p1), .val (.long bt), .second, .val (.long wd), .second, .unset, .unset, .unset]) rfl ?_
    show Steps p.tables e below (T2.setTop (mkF m 16 #[.val (.ref a1), .val (.int p1), .val (.long bt), .second, .val (.long wd), .second, .unset, .unset, .unset] [])) _
    refine XS.lloadN X2.here hx rfl (hb hby d12_16) rfl ?_
    show Steps p.tables e below (T2.setTop (mkF m 17 #[.val (.ref a1), .val (.int p1), .val (.long bt), .second, .val (.long wd), .second, .unset, .unset, .unset] [(.long bt)])) _
    refine X2.ldc2Long hx hown (mvT hZ (hw _ (List.mem_of_getElem? (i := 42) rfl))) (g := (mkF m 17 #[.val (.ref a1), .val (.int p1), .val (.long bt), .second, .val (.long wd), .second, .unset, .unset, .unset] [(.long bt)])) rfl (hb hby d12_17) _ ?_
    show Steps p.tables e below (T2.setTop (mkF m 20 #[.val (.ref a1), .val (.int p1), .val (.long bt), .second, .val (.long wd), .second, .unset, .unset, .unset] [(.long (64 : Int64)), (.long bt)])) _
    refine own_lremM X2 hx rfl (hb hby d12_20) rfl (by decide) ?_
    show Steps p.tables e below (T2.setTop (mkF m 21 #[.val (.ref a1), .val (.int p1), .val (.long bt), .second, .val (.long wd), .second, .unset, .unset, .unset] [(.long (bt % (64 : Int64)))])) _
    refine XS.l2i X2.here hx rfl (hb hby d12_21) rfl ?_
    show Steps p.tables e below (T2.setTop (mkF m 22 #[.val (.ref a1), .val (.int p1), .val (.long bt), .second, .val (.long wd), .second, .unset, .unset, .unset] [(.int ((bt % (64 : Int64)).toInt32))])) _
    exact k
  obtain ⟨sh, h_sh⟩ : ∃ z : Int32, z = ((bt % (64 : Int64)).toInt32) := ⟨_, rfl⟩
  have K9 : ∀ t, Steps p.tables e below (T2.setTop (mkF m 22 #[.val (.ref a1), .val (.int p1), .val (.long bt), .second, .val (.long wd), .second, .unset, .unset, .unset] [(.int sh)])) t → Steps p.tables e below G t := by rw [h_sh]; exact K8
  have K10 : ∀ t, Steps p.tables e below (T2.setTop (mkF m 24 #[.val (.ref a1), .val (.int p1), .val (.long bt), .second, .val (.long wd), .second, .val (.int sh), .unset, .unset] [])) t → Steps p.tables e below G t := by
    intro t k
    refine K9 t ?_
    show Steps p.tables e below (T2.setTop (mkF m 22 #[.val (.ref a1), .val (.int p1), .val (.long bt), .second, .val (.long wd), .second, .unset, .unset, .unset] [(.int sh)])) _
    refine XS.istore X2.here hx rfl (hb hby d12_22) rfl (l' := #[.val (.ref a1), .val (.int p1), .val (.long bt), .second, .val (.long wd), .second, .val (.int sh), .unset, .unset]) rfl ?_
    show Steps p.tables e below (T2.setTop (mkF m 24 #[.val (.ref a1), .val (.int p1), .val (.long bt), .second, .val (.long wd), .second, .val (.int sh), .unset, .unset] [])) _
    exact k
  obtain ⟨eb, ed, es⟩ := own_pos hi hwd h_bt h_wd h_sh
  have hkb : p1.toNatClampNeg * w.toNatClampNeg / 64 < 1048576 := by have : p1.toNatClampNeg * w.toNatClampNeg ≤ 1048575 * 64 := Nat.mul_le_mul (by omega) hw64; omega
  have hj1 := own_pg ed (by omega)
  have hj2 := own_ix ed (by omega)
  have K11 : ∀ t, Steps p.tables e below (T2.setTop (mkF m 25 #[.val (.ref a1), .val (.int p1), .val (.long bt), .second, .val (.long wd), .second, .val (.int sh), .unset, .unset] [(.ref a1)])) t → Steps p.tables e below G t := by
    intro t k
    refine K10 t ?_
    show Steps p.tables e below (T2.setTop (mkF m 24 #[.val (.ref a1), .val (.int p1), .val (.long bt), .second, .val (.long wd), .second, .val (.int sh), .unset, .unset] [])) _
    refine XS.aloadN X2.here hx rfl (hb hby d12_24) rfl rfl ?_
    show Steps p.tables e below (T2.setTop (mkF m 25 #[.val (.ref a1), .val (.int p1), .val (.long bt), .second, .val (.long wd), .second, .val (.int sh), .unset, .unset] [(.ref a1)])) _
    exact k
  obtain ⟨T12, X12, e12, st12⟩ := getF X2 hx hZ hown (host := "") (Or.inl (hw _ (List.mem_of_getElem? (i := 46) rfl))) Via.refl e2 Fp0 (g := (mkF m 25 #[.val (.ref a1), .val (.int p1), .val (.long bt), .second, .val (.long wd), .second, .val (.int sh), .unset, .unset] [(.ref a1)])) rfl rfl (hb hby d12_25)
  have K13 : ∀ t, Steps p.tables e below (T12.setTop (mkF m 28 #[.val (.ref a1), .val (.int p1), .val (.long bt), .second, .val (.long wd), .second, .val (.int sh), .unset, .unset] [(.ref ps)])) t → Steps p.tables e below G t := fun t k => K11 t (st12 t k)
  have K14 : ∀ t, Steps p.tables e below (T12.setTop (mkF m 34 #[.val (.ref a1), .val (.int p1), .val (.long bt), .second, .val (.long wd), .second, .val (.int sh), .unset, .unset] [(.int (((wd.toUInt64 >>> ((13 : Int32) &&& 0x3f).toInt64.toUInt64).toInt64).toInt32)), (.ref ps)])) t → Steps p.tables e below G t := by
    intro t k
    refine K13 t ?_
    show Steps p.tables e below (T12.setTop (mkF m 28 #[.val (.ref a1), .val (.int p1), .val (.long bt), .second, .val (.long wd), .second, .val (.int sh), .unset, .unset] [(.ref ps)])) _
    refine XS.lload X12.here hx rfl (hb hby d12_28) rfl ?_
    show Steps p.tables e below (T12.setTop (mkF m 30 #[.val (.ref a1), .val (.int p1), .val (.long bt), .second, .val (.long wd), .second, .val (.int sh), .unset, .unset] [(.long wd), (.ref ps)])) _
    refine XS.bipush X12.here hx rfl (hb hby d12_30) ?_
    show Steps p.tables e below (T12.setTop (mkF m 32 #[.val (.ref a1), .val (.int p1), .val (.long bt), .second, .val (.long wd), .second, .val (.int sh), .unset, .unset] [(.int (13 : Int32)), (.long wd), (.ref ps)])) _
    refine XS.lushr X12.here hx rfl (hb hby d12_32) rfl ?_
    show Steps p.tables e below (T12.setTop (mkF m 33 #[.val (.ref a1), .val (.int p1), .val (.long bt), .second, .val (.long wd), .second, .val (.int sh), .unset, .unset] [(.long ((wd.toUInt64 >>> ((13 : Int32) &&& 0x3f).toInt64.toUInt64).toInt64)), (.ref ps)])) _
    refine XS.l2i X12.here hx rfl (hb hby d12_33) rfl ?_
    show Steps p.tables e below (T12.setTop (mkF m 34 #[.val (.ref a1), .val (.int p1), .val (.long bt), .second, .val (.long wd), .second, .val (.int sh), .unset, .unset] [(.int (((wd.toUInt64 >>> ((13 : Int32) &&& 0x3f).toInt64.toUInt64).toInt64).toInt32)), (.ref ps)])) _
    exact k
  obtain ⟨hin15, hjn15⟩ := own_inp (j := (((wd.toUInt64 >>> ((13 : Int32) &&& 0x3f).toInt64.toUInt64).toInt64).toInt32)) (q := p1.toNatClampNeg * w.toNatClampNeg / 64 / 8192) hj1 ok1.1 cp0 Sp0
  have hat15 : cp0.slots[((((wd.toUInt64 >>> ((13 : Int32) &&& 0x3f).toInt64.toUInt64).toInt64).toInt32)).toNatClampNeg]? = some (.ref (P (p1.toNatClampNeg * w.toNatClampNeg / 64 / 8192))) := by rw [hjn15]; exact Hp0 _ ok1.1
  have K16 : ∀ t, Steps p.tables e below (T12.setTop (mkF m 35 #[.val (.ref a1), .val (.int p1), .val (.long bt), .second, .val (.long wd), .second, .val (.int sh), .unset, .unset] [(.ref (P (p1.toNatClampNeg * w.toNatClampNeg / 64 / 8192)))])) t → Steps p.tables e below G t := fun t k => K14 t (X12.aaload hx (j := (((wd.toUInt64 >>> ((13 : Int32) &&& 0x3f).toInt64.toUInt64).toInt64).toInt32)) (v := .ref (P (p1.toNatClampNeg * w.toNatClampNeg / 64 / 8192))) (by rw [e12]; exact Ap0.1) (State.isArrayOf_alike hZ.alike Ap0.2.1) rfl Ap0.2.2 hin15 hat15 (g := (mkF m 34 #[.val (.ref a1), .val (.int p1), .val (.long bt), .second, .val (.long wd), .second, .val (.int sh), .unset, .unset] [(.int (((wd.toUInt64 >>> ((13 : Int32) &&& 0x3f).toInt64.toUInt64).toInt64).toInt32)), (.ref ps)])) rfl rfl (hb hby d12_34) _ k)
  have K17 : ∀ t, Steps p.tables e below (T12.setTop (mkF m 42 #[.val (.ref a1), .val (.int p1), .val (.long bt), .second, .val (.long wd), .second, .val (.int sh), .unset, .unset] [(.int ((wd.toInt32) &&& (8191 : Int32))), (.ref (P (p1.toNatClampNeg * w.toNatClampNeg / 64 / 8192)))])) t → Steps p.tables e below G t := by
    intro t k
    refine K16 t ?_
    show Steps p.tables e below (T12.setTop (mkF m 35 #[.val (.ref a1), .val (.int p1), .val (.long bt), .second, .val (.long wd), .second, .val (.int sh), .unset, .unset] [(.ref (P (p1.toNatClampNeg * w.toNatClampNeg / 64 / 8192)))])) _
    refine XS.lload X12.here hx rfl (hb hby d12_35) rfl ?_
    show Steps p.tables e below (T12.setTop (mkF m 37 #[.val (.ref a1), .val (.int p1), .val (.long bt), .second, .val (.long wd), .second, .val (.int sh), .unset, .unset] [(.long wd), (.ref (P (p1.toNatClampNeg * w.toNatClampNeg / 64 / 8192)))])) _
    refine XS.l2i X12.here hx rfl (hb hby d12_37) rfl ?_
    show Steps p.tables e below (T12.setTop (mkF m 38 #[.val (.ref a1), .val (.int p1), .val (.long bt), .second, .val (.long wd), .second, .val (.int sh), .unset, .unset] [(.int (wd.toInt32)), (.ref (P (p1.toNatClampNeg * w.toNatClampNeg / 64 / 8192)))])) _
    refine XS.sipush X12.here hx rfl (hb hby d12_38) ?_
    show Steps p.tables e below (T12.setTop (mkF m 41 #[.val (.ref a1), .val (.int p1), .val (.long bt), .second, .val (.long wd), .second, .val (.int sh), .unset, .unset] [(.int (8191 : Int32)), (.int (wd.toInt32)), (.ref (P (p1.toNatClampNeg * w.toNatClampNeg / 64 / 8192)))])) _
    refine XS.iand X12.here hx rfl (hb hby d12_41) rfl ?_
    show Steps p.tables e below (T12.setTop (mkF m 42 #[.val (.ref a1), .val (.int p1), .val (.long bt), .second, .val (.long wd), .second, .val (.int sh), .unset, .unset] [(.int ((wd.toInt32) &&& (8191 : Int32))), (.ref (P (p1.toNatClampNeg * w.toNatClampNeg / 64 / 8192)))])) _
    exact k
  obtain ⟨cl18, Ar18, Sz18, Hv18⟩ := (HA0 _ ok1.1).1
  obtain ⟨hin18, hjn18⟩ := own_inp (j := ((wd.toInt32) &&& (8191 : Int32))) (q := (p1.toNatClampNeg * w.toNatClampNeg / 64) % 8192) hj2 ok1.2 cl18 Sz18
  have hat18 : cl18.slots[(((wd.toInt32) &&& (8191 : Int32))).toNatClampNeg]? = some (.long (W (p1.toNatClampNeg * w.toNatClampNeg / 64))) := by rw [hjn18, Hv18 _ ok1.2]; show some (Value.long (W (8192 * ((p1.toNatClampNeg * w.toNatClampNeg / 64) / 8192) + (p1.toNatClampNeg * w.toNatClampNeg / 64) % 8192))) = _; rw [Nat.div_add_mod]
  have K19 : ∀ t, Steps p.tables e below (T12.setTop (mkF m 43 #[.val (.ref a1), .val (.int p1), .val (.long bt), .second, .val (.long wd), .second, .val (.int sh), .unset, .unset] [(.long (W (p1.toNatClampNeg * w.toNatClampNeg / 64)))])) t → Steps p.tables e below G t := fun t k => K17 t (X12.laload hx (j := ((wd.toInt32) &&& (8191 : Int32))) (v := .long (W (p1.toNatClampNeg * w.toNatClampNeg / 64))) (by rw [e12]; exact Ar18.1) (State.isArrayOf_alike hZ.alike Ar18.2.1) Ar18.2.2 hin18 hat18 (g := (mkF m 42 #[.val (.ref a1), .val (.int p1), .val (.long bt), .second, .val (.long wd), .second, .val (.int sh), .unset, .unset] [(.int ((wd.toInt32) &&& (8191 : Int32))), (.ref (P (p1.toNatClampNeg * w.toNatClampNeg / 64 / 8192)))])) rfl rfl (hb hby d12_42) _ k)
  have K20 : ∀ t, Steps p.tables e below (T12.setTop (mkF m 51 #[.val (.ref a1), .val (.int p1), .val (.long bt), .second, .val (.long wd), .second, .val (.int sh), .val (.long (((W (p1.toNatClampNeg * w.toNatClampNeg / 64)).toUInt64 >>> (sh &&& 0x3f).toInt64.toUInt64).toInt64)), .second] [(.ref a1), (.int sh)])) t → Steps p.tables e below G t := by
    intro t k
    refine K19 t ?_
    show Steps p.tables e below (T12.setTop (mkF m 43 #[.val (.ref a1), .val (.int p1), .val (.long bt), .second, .val (.long wd), .second, .val (.int sh), .unset, .unset] [(.long (W (p1.toNatClampNeg * w.toNatClampNeg / 64)))])) _
    refine XS.iload X12.here hx rfl (hb hby d12_43) rfl ?_
    show Steps p.tables e below (T12.setTop (mkF m 45 #[.val (.ref a1), .val (.int p1), .val (.long bt), .second, .val (.long wd), .second, .val (.int sh), .unset, .unset] [(.int sh), (.long (W (p1.toNatClampNeg * w.toNatClampNeg / 64)))])) _
    refine XS.lushr X12.here hx rfl (hb hby d12_45) rfl ?_
    show Steps p.tables e below (T12.setTop (mkF m 46 #[.val (.ref a1), .val (.int p1), .val (.long bt), .second, .val (.long wd), .second, .val (.int sh), .unset, .unset] [(.long (((W (p1.toNatClampNeg * w.toNatClampNeg / 64)).toUInt64 >>> (sh &&& 0x3f).toInt64.toUInt64).toInt64))])) _
    refine XS.lstore X12.here hx rfl (hb hby d12_46) rfl (l' := #[.val (.ref a1), .val (.int p1), .val (.long bt), .second, .val (.long wd), .second, .val (.int sh), .val (.long (((W (p1.toNatClampNeg * w.toNatClampNeg / 64)).toUInt64 >>> (sh &&& 0x3f).toInt64.toUInt64).toInt64)), .second]) rfl ?_
    show Steps p.tables e below (T12.setTop (mkF m 48 #[.val (.ref a1), .val (.int p1), .val (.long bt), .second, .val (.long wd), .second, .val (.int sh), .val (.long (((W (p1.toNatClampNeg * w.toNatClampNeg / 64)).toUInt64 >>> (sh &&& 0x3f).toInt64.toUInt64).toInt64)), .second] [])) _
    refine XS.iload X12.here hx rfl (hb hby d12_48) rfl ?_
    show Steps p.tables e below (T12.setTop (mkF m 50 #[.val (.ref a1), .val (.int p1), .val (.long bt), .second, .val (.long wd), .second, .val (.int sh), .val (.long (((W (p1.toNatClampNeg * w.toNatClampNeg / 64)).toUInt64 >>> (sh &&& 0x3f).toInt64.toUInt64).toInt64)), .second] [(.int sh)])) _
    refine XS.aloadN X12.here hx rfl (hb hby d12_50) rfl rfl ?_
    show Steps p.tables e below (T12.setTop (mkF m 51 #[.val (.ref a1), .val (.int p1), .val (.long bt), .second, .val (.long wd), .second, .val (.int sh), .val (.long (((W (p1.toNatClampNeg * w.toNatClampNeg / 64)).toUInt64 >>> (sh &&& 0x3f).toInt64.toUInt64).toInt64)), .second] [(.ref a1), (.int sh)])) _
    exact k
  obtain ⟨T21, X21, e21, st21⟩ := getF X12 hx hZ hown (host := "") (Or.inl (hw _ (List.mem_of_getElem? (i := 33) rfl))) Via.refl e12 Fw0 (g := (mkF m 51 #[.val (.ref a1), .val (.int p1), .val (.long bt), .second, .val (.long wd), .second, .val (.int sh), .val (.long (((W (p1.toNatClampNeg * w.toNatClampNeg / 64)).toUInt64 >>> (sh &&& 0x3f).toInt64.toUInt64).toInt64)), .second] [(.ref a1), (.int sh)])) rfl rfl (hb hby d12_51)
  have K22 : ∀ t, Steps p.tables e below (T21.setTop (mkF m 54 #[.val (.ref a1), .val (.int p1), .val (.long bt), .second, .val (.long wd), .second, .val (.int sh), .val (.long (((W (p1.toNatClampNeg * w.toNatClampNeg / 64)).toUInt64 >>> (sh &&& 0x3f).toInt64.toUInt64).toInt64)), .second] [(.int w), (.int sh)])) t → Steps p.tables e below G t := fun t k => K20 t (st21 t k)
  have K23 : ∀ t, Steps p.tables e below (T21.setTop (mkF m 57 #[.val (.ref a1), .val (.int p1), .val (.long bt), .second, .val (.long wd), .second, .val (.int sh), .val (.long (((W (p1.toNatClampNeg * w.toNatClampNeg / 64)).toUInt64 >>> (sh &&& 0x3f).toInt64.toUInt64).toInt64)), .second] [(.int (64 : Int32)), (.int (sh + w))])) t → Steps p.tables e below G t := by
    intro t k
    refine K22 t ?_
    show Steps p.tables e below (T21.setTop (mkF m 54 #[.val (.ref a1), .val (.int p1), .val (.long bt), .second, .val (.long wd), .second, .val (.int sh), .val (.long (((W (p1.toNatClampNeg * w.toNatClampNeg / 64)).toUInt64 >>> (sh &&& 0x3f).toInt64.toUInt64).toInt64)), .second] [(.int w), (.int sh)])) _
    refine XS.iadd X21.here hx rfl (hb hby d12_54) rfl ?_
    show Steps p.tables e below (T21.setTop (mkF m 55 #[.val (.ref a1), .val (.int p1), .val (.long bt), .second, .val (.long wd), .second, .val (.int sh), .val (.long (((W (p1.toNatClampNeg * w.toNatClampNeg / 64)).toUInt64 >>> (sh &&& 0x3f).toInt64.toUInt64).toInt64)), .second] [(.int (sh + w))])) _
    refine XS.bipush X21.here hx rfl (hb hby d12_55) ?_
    show Steps p.tables e below (T21.setTop (mkF m 57 #[.val (.ref a1), .val (.int p1), .val (.long bt), .second, .val (.long wd), .second, .val (.int sh), .val (.long (((W (p1.toNatClampNeg * w.toNatClampNeg / 64)).toUInt64 >>> (sh &&& 0x3f).toInt64.toUInt64).toInt64)), .second] [(.int (64 : Int32)), (.int (sh + w))])) _
    exact k
  by_cases hc24 : (64 : Int32) < (sh + w)
  · have K25 : ∀ t, Steps p.tables e below (T21.setTop (mkF m 60 #[.val (.ref a1), .val (.int p1), .val (.long bt), .second, .val (.long wd), .second, .val (.int sh), .val (.long (((W (p1.toNatClampNeg * w.toNatClampNeg / 64)).toUInt64 >>> (sh &&& 0x3f).toInt64.toUInt64).toInt64)), .second] [])) t → Steps p.tables e below G t := by
      intro t k
      refine K23 t ?_
      show Steps p.tables e below (T21.setTop (mkF m 57 #[.val (.ref a1), .val (.int p1), .val (.long bt), .second, .val (.long wd), .second, .val (.int sh), .val (.long (((W (p1.toNatClampNeg * w.toNatClampNeg / 64)).toUInt64 >>> (sh &&& 0x3f).toInt64.toUInt64).toInt64)), .second] [(.int (64 : Int32)), (.int (sh + w))])) _
      refine XS.icmpNo X21.here hx rfl (hb hby d12_57) rfl (tlt hc24).2.2.2 ?_
      show Steps p.tables e below (T21.setTop (mkF m 60 #[.val (.ref a1), .val (.int p1), .val (.long bt), .second, .val (.long wd), .second, .val (.int sh), .val (.long (((W (p1.toNatClampNeg * w.toNatClampNeg / 64)).toUInt64 >>> (sh &&& 0x3f).toInt64.toUInt64).toInt64)), .second] [])) _
      exact k
    have hcr := (own_cross es hwd).mp hc24
    have h0s : 0 < p1.toNatClampNeg * w.toNatClampNeg % 64 := by omega
    have ok2 := hok _ (own_in2 his hw64 hcr)
    have ed1 := own_l1 ed hkb
    have hj3 := own_pg ed1 (by omega)
    have hj4 := own_ix ed1 (by omega)
    have K26 : ∀ t, Steps p.tables e below (T21.setTop (mkF m 63 #[.val (.ref a1), .val (.int p1), .val (.long bt), .second, .val (.long wd), .second, .val (.int sh), .val (.long (((W (p1.toNatClampNeg * w.toNatClampNeg / 64)).toUInt64 >>> (sh &&& 0x3f).toInt64.toUInt64).toInt64)), .second] [(.ref a1), (.long (((W (p1.toNatClampNeg * w.toNatClampNeg / 64)).toUInt64 >>> (sh &&& 0x3f).toInt64.toUInt64).toInt64))])) t → Steps p.tables e below G t := by
      intro t k
      refine K25 t ?_
      show Steps p.tables e below (T21.setTop (mkF m 60 #[.val (.ref a1), .val (.int p1), .val (.long bt), .second, .val (.long wd), .second, .val (.int sh), .val (.long (((W (p1.toNatClampNeg * w.toNatClampNeg / 64)).toUInt64 >>> (sh &&& 0x3f).toInt64.toUInt64).toInt64)), .second] [])) _
      refine XS.lload X21.here hx rfl (hb hby d12_60) rfl ?_
      show Steps p.tables e below (T21.setTop (mkF m 62 #[.val (.ref a1), .val (.int p1), .val (.long bt), .second, .val (.long wd), .second, .val (.int sh), .val (.long (((W (p1.toNatClampNeg * w.toNatClampNeg / 64)).toUInt64 >>> (sh &&& 0x3f).toInt64.toUInt64).toInt64)), .second] [(.long (((W (p1.toNatClampNeg * w.toNatClampNeg / 64)).toUInt64 >>> (sh &&& 0x3f).toInt64.toUInt64).toInt64))])) _
      refine XS.aloadN X21.here hx rfl (hb hby d12_62) rfl rfl ?_
      show Steps p.tables e below (T21.setTop (mkF m 63 #[.val (.ref a1), .val (.int p1), .val (.long bt), .second, .val (.long wd), .second, .val (.int sh), .val (.long (((W (p1.toNatClampNeg * w.toNatClampNeg / 64)).toUInt64 >>> (sh &&& 0x3f).toInt64.toUInt64).toInt64)), .second] [(.ref a1), (.long (((W (p1.toNatClampNeg * w.toNatClampNeg / 64)).toUInt64 >>> (sh &&& 0x3f).toInt64.toUInt64).toInt64))])) _
      exact k
    obtain ⟨T27, X27, e27, st27⟩ := getF X21 hx hZ hown (host := "") (Or.inl (hw _ (List.mem_of_getElem? (i := 46) rfl))) Via.refl e21 Fp0 (g := (mkF m 63 #[.val (.ref a1), .val (.int p1), .val (.long bt), .second, .val (.long wd), .second, .val (.int sh), .val (.long (((W (p1.toNatClampNeg * w.toNatClampNeg / 64)).toUInt64 >>> (sh &&& 0x3f).toInt64.toUInt64).toInt64)), .second] [(.ref a1), (.long (((W (p1.toNatClampNeg * w.toNatClampNeg / 64)).toUInt64 >>> (sh &&& 0x3f).toInt64.toUInt64).toInt64))])) rfl rfl (hb hby d12_63)
    have K28 : ∀ t, Steps p.tables e below (T27.setTop (mkF m 66 #[.val (.ref a1), .val (.int p1), .val (.long bt), .second, .val (.long wd), .second, .val (.int sh), .val (.long (((W (p1.toNatClampNeg * w.toNatClampNeg / 64)).toUInt64 >>> (sh &&& 0x3f).toInt64.toUInt64).toInt64)), .second] [(.ref ps), (.long (((W (p1.toNatClampNeg * w.toNatClampNeg / 64)).toUInt64 >>> (sh &&& 0x3f).toInt64.toUInt64).toInt64))])) t → Steps p.tables e below G t := fun t k => K26 t (st27 t k)
    have K29 : ∀ t, Steps p.tables e below (T27.setTop (mkF m 74 #[.val (.ref a1), .val (.int p1), .val (.long bt), .second, .val (.long wd), .second, .val (.int sh), .val (.long (((W (p1.toNatClampNeg * w.toNatClampNeg / 64)).toUInt64 >>> (sh &&& 0x3f).toInt64.toUInt64).toInt64)), .second] [(.int ((((wd + (1 : Int64)).toUInt64 >>> ((13 : Int32) &&& 0x3f).toInt64.toUInt64).toInt64).toInt32)), (.ref ps), (.long (((W (p1.toNatClampNeg * w.toNatClampNeg / 64)).toUInt64 >>> (sh &&& 0x3f).toInt64.toUInt64).toInt64))])) t → Steps p.tables e below G t := by
      intro t k
      refine K28 t ?_
      show Steps p.tables e below (T27.setTop (mkF m 66 #[.val (.ref a1), .val (.int p1), .val (.long bt), .second, .val (.long wd), .second, .val (.int sh), .val (.long (((W (p1.toNatClampNeg * w.toNatClampNeg / 64)).toUInt64 >>> (sh &&& 0x3f).toInt64.toUInt64).toInt64)), .second] [(.ref ps), (.long (((W (p1.toNatClampNeg * w.toNatClampNeg / 64)).toUInt64 >>> (sh &&& 0x3f).toInt64.toUInt64).toInt64))])) _
      refine XS.lload X27.here hx rfl (hb hby d12_66) rfl ?_
      show Steps p.tables e below (T27.setTop (mkF m 68 #[.val (.ref a1), .val (.int p1), .val (.long bt), .second, .val (.long wd), .second, .val (.int sh), .val (.long (((W (p1.toNatClampNeg * w.toNatClampNeg / 64)).toUInt64 >>> (sh &&& 0x3f).toInt64.toUInt64).toInt64)), .second] [(.long wd), (.ref ps), (.long (((W (p1.toNatClampNeg * w.toNatClampNeg / 64)).toUInt64 >>> (sh &&& 0x3f).toInt64.toUInt64).toInt64))])) _
      refine XS.lconst X27.here hx rfl (hb hby d12_68) ?_
      show Steps p.tables e below (T27.setTop (mkF m 69 #[.val (.ref a1), .val (.int p1), .val (.long bt), .second, .val (.long wd), .second, .val (.int sh), .val (.long (((W (p1.toNatClampNeg * w.toNatClampNeg / 64)).toUInt64 >>> (sh &&& 0x3f).toInt64.toUInt64).toInt64)), .second] [(.long (1 : Int64)), (.long wd), (.ref ps), (.long (((W (p1.toNatClampNeg * w.toNatClampNeg / 64)).toUInt64 >>> (sh &&& 0x3f).toInt64.toUInt64).toInt64))])) _
      refine XS.ladd X27.here hx rfl (hb hby d12_69) rfl ?_
      show Steps p.tables e below (T27.setTop (mkF m 70 #[.val (.ref a1), .val (.int p1), .val (.long bt), .second, .val (.long wd), .second, .val (.int sh), .val (.long (((W (p1.toNatClampNeg * w.toNatClampNeg / 64)).toUInt64 >>> (sh &&& 0x3f).toInt64.toUInt64).toInt64)), .second] [(.long (wd + (1 : Int64))), (.ref ps), (.long (((W (p1.toNatClampNeg * w.toNatClampNeg / 64)).toUInt64 >>> (sh &&& 0x3f).toInt64.toUInt64).toInt64))])) _
      refine XS.bipush X27.here hx rfl (hb hby d12_70) ?_
      show Steps p.tables e below (T27.setTop (mkF m 72 #[.val (.ref a1), .val (.int p1), .val (.long bt), .second, .val (.long wd), .second, .val (.int sh), .val (.long (((W (p1.toNatClampNeg * w.toNatClampNeg / 64)).toUInt64 >>> (sh &&& 0x3f).toInt64.toUInt64).toInt64)), .second] [(.int (13 : Int32)), (.long (wd + (1 : Int64))), (.ref ps), (.long (((W (p1.toNatClampNeg * w.toNatClampNeg / 64)).toUInt64 >>> (sh &&& 0x3f).toInt64.toUInt64).toInt64))])) _
      refine XS.lushr X27.here hx rfl (hb hby d12_72) rfl ?_
      show Steps p.tables e below (T27.setTop (mkF m 73 #[.val (.ref a1), .val (.int p1), .val (.long bt), .second, .val (.long wd), .second, .val (.int sh), .val (.long (((W (p1.toNatClampNeg * w.toNatClampNeg / 64)).toUInt64 >>> (sh &&& 0x3f).toInt64.toUInt64).toInt64)), .second] [(.long (((wd + (1 : Int64)).toUInt64 >>> ((13 : Int32) &&& 0x3f).toInt64.toUInt64).toInt64)), (.ref ps), (.long (((W (p1.toNatClampNeg * w.toNatClampNeg / 64)).toUInt64 >>> (sh &&& 0x3f).toInt64.toUInt64).toInt64))])) _
      refine XS.l2i X27.here hx rfl (hb hby d12_73) rfl ?_
      show Steps p.tables e below (T27.setTop (mkF m 74 #[.val (.ref a1), .val (.int p1), .val (.long bt), .second, .val (.long wd), .second, .val (.int sh), .val (.long (((W (p1.toNatClampNeg * w.toNatClampNeg / 64)).toUInt64 >>> (sh &&& 0x3f).toInt64.toUInt64).toInt64)), .second] [(.int ((((wd + (1 : Int64)).toUInt64 >>> ((13 : Int32) &&& 0x3f).toInt64.toUInt64).toInt64).toInt32)), (.ref ps), (.long (((W (p1.toNatClampNeg * w.toNatClampNeg / 64)).toUInt64 >>> (sh &&& 0x3f).toInt64.toUInt64).toInt64))])) _
      exact k
    obtain ⟨hin30, hjn30⟩ := own_inp (j := ((((wd + (1 : Int64)).toUInt64 >>> ((13 : Int32) &&& 0x3f).toInt64.toUInt64).toInt64).toInt32)) (q := (p1.toNatClampNeg * w.toNatClampNeg / 64 + 1) / 8192) hj3 ok2.1 cp0 Sp0
    have hat30 : cp0.slots[(((((wd + (1 : Int64)).toUInt64 >>> ((13 : Int32) &&& 0x3f).toInt64.toUInt64).toInt64).toInt32)).toNatClampNeg]? = some (.ref (P ((p1.toNatClampNeg * w.toNatClampNeg / 64 + 1) / 8192))) := by rw [hjn30]; exact Hp0 _ ok2.1
    have K31 : ∀ t, Steps p.tables e below (T27.setTop (mkF m 75 #[.val (.ref a1), .val (.int p1), .val (.long bt), .second, .val (.long wd), .second, .val (.int sh), .val (.long (((W (p1.toNatClampNeg * w.toNatClampNeg / 64)).toUInt64 >>> (sh &&& 0x3f).toInt64.toUInt64).toInt64)), .second] [(.ref (P ((p1.toNatClampNeg * w.toNatClampNeg / 64 + 1) / 8192))), (.long (((W (p1.toNatClampNeg * w.toNatClampNeg / 64)).toUInt64 >>> (sh &&& 0x3f).toInt64.toUInt64).toInt64))])) t → Steps p.tables e below G t := fun t k => K29 t (X27.aaload hx (j := ((((wd + (1 : Int64)).toUInt64 >>> ((13 : Int32) &&& 0x3f).toInt64.toUInt64).toInt64).toInt32)) (v := .ref (P ((p1.toNatClampNeg * w.toNatClampNeg / 64 + 1) / 8192))) (by rw [e27]; exact Ap0.1) (State.isArrayOf_alike hZ.alike Ap0.2.1) rfl Ap0.2.2 hin30 hat30 (g := (mkF m 74 #[.val (.ref a1), .val (.int p1), .val (.long bt), .second, .val (.long wd), .second, .val (.int sh), .val (.long (((W (p1.toNatClampNeg * w.toNatClampNeg / 64)).toUInt64 >>> (sh &&& 0x3f).toInt64.toUInt64).toInt64)), .second] [(.int ((((wd + (1 : Int64)).toUInt64 >>> ((13 : Int32) &&& 0x3f).toInt64.toUInt64).toInt64).toInt32)), (.ref ps), (.long (((W (p1.toNatClampNeg * w.toNatClampNeg / 64)).toUInt64 >>> (sh &&& 0x3f).toInt64.toUInt64).toInt64))])) rfl rfl (hb hby d12_74) _ k)
    have K32 : ∀ t, Steps p.tables e below (T27.setTop (mkF m 84 #[.val (.ref a1), .val (.int p1), .val (.long bt), .second, .val (.long wd), .second, .val (.int sh), .val (.long (((W (p1.toNatClampNeg * w.toNatClampNeg / 64)).toUInt64 >>> (sh &&& 0x3f).toInt64.toUInt64).toInt64)), .second] [(.int (((wd + (1 : Int64)).toInt32) &&& (8191 : Int32))), (.ref (P ((p1.toNatClampNeg * w.toNatClampNeg / 64 + 1) / 8192))), (.long (((W (p1.toNatClampNeg * w.toNatClampNeg / 64)).toUInt64 >>> (sh &&& 0x3f).toInt64.toUInt64).toInt64))])) t → Steps p.tables e below G t := by
      intro t k
      refine K31 t ?_
      show Steps p.tables e below (T27.setTop (mkF m 75 #[.val (.ref a1), .val (.int p1), .val (.long bt), .second, .val (.long wd), .second, .val (.int sh), .val (.long (((W (p1.toNatClampNeg * w.toNatClampNeg / 64)).toUInt64 >>> (sh &&& 0x3f).toInt64.toUInt64).toInt64)), .second] [(.ref (P ((p1.toNatClampNeg * w.toNatClampNeg / 64 + 1) / 8192))), (.long (((W (p1.toNatClampNeg * w.toNatClampNeg / 64)).toUInt64 >>> (sh &&& 0x3f).toInt64.toUInt64).toInt64))])) _
      refine XS.lload X27.here hx rfl (hb hby d12_75) rfl ?_
      show Steps p.tables e below (T27.setTop (mkF m 77 #[.val (.ref a1), .val (.int p1), .val (.long bt), .second, .val (.long wd), .second, .val (.int sh), .val (.long (((W (p1.toNatClampNeg * w.toNatClampNeg / 64)).toUInt64 >>> (sh &&& 0x3f).toInt64.toUInt64).toInt64)), .second] [(.long wd), (.ref (P ((p1.toNatClampNeg * w.toNatClampNeg / 64 + 1) / 8192))), (.long (((W (p1.toNatClampNeg * w.toNatClampNeg / 64)).toUInt64 >>> (sh &&& 0x3f).toInt64.toUInt64).toInt64))])) _
      refine XS.lconst X27.here hx rfl (hb hby d12_77) ?_
      show Steps p.tables e below (T27.setTop (mkF m 78 #[.val (.ref a1), .val (.int p1), .val (.long bt), .second, .val (.long wd), .second, .val (.int sh), .val (.long (((W (p1.toNatClampNeg * w.toNatClampNeg / 64)).toUInt64 >>> (sh &&& 0x3f).toInt64.toUInt64).toInt64)), .second] [(.long (1 : Int64)), (.long wd), (.ref (P ((p1.toNatClampNeg * w.toNatClampNeg / 64 + 1) / 8192))), (.long (((W (p1.toNatClampNeg * w.toNatClampNeg / 64)).toUInt64 >>> (sh &&& 0x3f).toInt64.toUInt64).toInt64))])) _
      refine XS.ladd X27.here hx rfl (hb hby d12_78) rfl ?_
      show Steps p.tables e below (T27.setTop (mkF m 79 #[.val (.ref a1), .val (.int p1), .val (.long bt), .second, .val (.long wd), .second, .val (.int sh), .val (.long (((W (p1.toNatClampNeg * w.toNatClampNeg / 64)).toUInt64 >>> (sh &&& 0x3f).toInt64.toUInt64).toInt64)), .second] [(.long (wd + (1 : Int64))), (.ref (P ((p1.toNatClampNeg * w.toNatClampNeg / 64 + 1) / 8192))), (.long (((W (p1.toNatClampNeg * w.toNatClampNeg / 64)).toUInt64 >>> (sh &&& 0x3f).toInt64.toUInt64).toInt64))])) _
      refine XS.l2i X27.here hx rfl (hb hby d12_79) rfl ?_
      show Steps p.tables e below (T27.setTop (mkF m 80 #[.val (.ref a1), .val (.int p1), .val (.long bt), .second, .val (.long wd), .second, .val (.int sh), .val (.long (((W (p1.toNatClampNeg * w.toNatClampNeg / 64)).toUInt64 >>> (sh &&& 0x3f).toInt64.toUInt64).toInt64)), .second] [(.int ((wd + (1 : Int64)).toInt32)), (.ref (P ((p1.toNatClampNeg * w.toNatClampNeg / 64 + 1) / 8192))), (.long (((W (p1.toNatClampNeg * w.toNatClampNeg / 64)).toUInt64 >>> (sh &&& 0x3f).toInt64.toUInt64).toInt64))])) _
      refine XS.sipush X27.here hx rfl (hb hby d12_80) ?_
      show Steps p.tables e below (T27.setTop (mkF m 83 #[.val (.ref a1), .val (.int p1), .val (.long bt), .second, .val (.long wd), .second, .val (.int sh), .val (.long (((W (p1.toNatClampNeg * w.toNatClampNeg / 64)).toUInt64 >>> (sh &&& 0x3f).toInt64.toUInt64).toInt64)), .second] [(.int (8191 : Int32)), (.int ((wd + (1 : Int64)).toInt32)), (.ref (P ((p1.toNatClampNeg * w.toNatClampNeg / 64 + 1) / 8192))), (.long (((W (p1.toNatClampNeg * w.toNatClampNeg / 64)).toUInt64 >>> (sh &&& 0x3f).toInt64.toUInt64).toInt64))])) _
      refine XS.iand X27.here hx rfl (hb hby d12_83) rfl ?_
      show Steps p.tables e below (T27.setTop (mkF m 84 #[.val (.ref a1), .val (.int p1), .val (.long bt), .second, .val (.long wd), .second, .val (.int sh), .val (.long (((W (p1.toNatClampNeg * w.toNatClampNeg / 64)).toUInt64 >>> (sh &&& 0x3f).toInt64.toUInt64).toInt64)), .second] [(.int (((wd + (1 : Int64)).toInt32) &&& (8191 : Int32))), (.ref (P ((p1.toNatClampNeg * w.toNatClampNeg / 64 + 1) / 8192))), (.long (((W (p1.toNatClampNeg * w.toNatClampNeg / 64)).toUInt64 >>> (sh &&& 0x3f).toInt64.toUInt64).toInt64))])) _
      exact k
    obtain ⟨cl33, Ar33, Sz33, Hv33⟩ := (HA0 _ ok2.1).1
    obtain ⟨hin33, hjn33⟩ := own_inp (j := (((wd + (1 : Int64)).toInt32) &&& (8191 : Int32))) (q := (p1.toNatClampNeg * w.toNatClampNeg / 64 + 1) % 8192) hj4 ok2.2 cl33 Sz33
    have hat33 : cl33.slots[((((wd + (1 : Int64)).toInt32) &&& (8191 : Int32))).toNatClampNeg]? = some (.long (W (p1.toNatClampNeg * w.toNatClampNeg / 64 + 1))) := by rw [hjn33, Hv33 _ ok2.2]; show some (Value.long (W (8192 * ((p1.toNatClampNeg * w.toNatClampNeg / 64 + 1) / 8192) + (p1.toNatClampNeg * w.toNatClampNeg / 64 + 1) % 8192))) = _; rw [Nat.div_add_mod]
    have K34 : ∀ t, Steps p.tables e below (T27.setTop (mkF m 85 #[.val (.ref a1), .val (.int p1), .val (.long bt), .second, .val (.long wd), .second, .val (.int sh), .val (.long (((W (p1.toNatClampNeg * w.toNatClampNeg / 64)).toUInt64 >>> (sh &&& 0x3f).toInt64.toUInt64).toInt64)), .second] [(.long (W (p1.toNatClampNeg * w.toNatClampNeg / 64 + 1))), (.long (((W (p1.toNatClampNeg * w.toNatClampNeg / 64)).toUInt64 >>> (sh &&& 0x3f).toInt64.toUInt64).toInt64))])) t → Steps p.tables e below G t := fun t k => K32 t (X27.laload hx (j := (((wd + (1 : Int64)).toInt32) &&& (8191 : Int32))) (v := .long (W (p1.toNatClampNeg * w.toNatClampNeg / 64 + 1))) (by rw [e27]; exact Ar33.1) (State.isArrayOf_alike hZ.alike Ar33.2.1) Ar33.2.2 hin33 hat33 (g := (mkF m 84 #[.val (.ref a1), .val (.int p1), .val (.long bt), .second, .val (.long wd), .second, .val (.int sh), .val (.long (((W (p1.toNatClampNeg * w.toNatClampNeg / 64)).toUInt64 >>> (sh &&& 0x3f).toInt64.toUInt64).toInt64)), .second] [(.int (((wd + (1 : Int64)).toInt32) &&& (8191 : Int32))), (.ref (P ((p1.toNatClampNeg * w.toNatClampNeg / 64 + 1) / 8192))), (.long (((W (p1.toNatClampNeg * w.toNatClampNeg / 64)).toUInt64 >>> (sh &&& 0x3f).toInt64.toUInt64).toInt64))])) rfl rfl (hb hby d12_84) _ k)
    have K35 : ∀ t, Steps p.tables e below (T27.setTop (mkF m 97 #[.val (.ref a1), .val (.int p1), .val (.long bt), .second, .val (.long wd), .second, .val (.int sh), .val (.long ((((W (p1.toNatClampNeg * w.toNatClampNeg / 64)).toUInt64 >>> (sh &&& 0x3f).toInt64.toUInt64).toInt64) ||| ((W (p1.toNatClampNeg * w.toNatClampNeg / 64 + 1)) <<< (((64 : Int32) - sh) &&& 0x3f).toInt64))), .second] [(.ref a1), (.long ((((W (p1.toNatClampNeg * w.toNatClampNeg / 64)).toUInt64 >>> (sh &&& 0x3f).toInt64.toUInt64).toInt64) ||| ((W (p1.toNatClampNeg * w.toNatClampNeg / 64 + 1)) <<< (((64 : Int32) - sh) &&& 0x3f).toInt64)))])) t → Steps p.tables e below G t := by
      intro t k
      refine K34 t ?_
      show Steps p.tables e below (T27.setTop (mkF m 85 #[.val (.ref a1), .val (.int p1), .val (.long bt), .second, .val (.long wd), .second, .val (.int sh), .val (.long (((W (p1.toNatClampNeg * w.toNatClampNeg / 64)).toUInt64 >>> (sh &&& 0x3f).toInt64.toUInt64).toInt64)), .second] [(.long (W (p1.toNatClampNeg * w.toNatClampNeg / 64 + 1))), (.long (((W (p1.toNatClampNeg * w.toNatClampNeg / 64)).toUInt64 >>> (sh &&& 0x3f).toInt64.toUInt64).toInt64))])) _
      refine XS.bipush X27.here hx rfl (hb hby d12_85) ?_
      show Steps p.tables e below (T27.setTop (mkF m 87 #[.val (.ref a1), .val (.int p1), .val (.long bt), .second, .val (.long wd), .second, .val (.int sh), .val (.long (((W (p1.toNatClampNeg * w.toNatClampNeg / 64)).toUInt64 >>> (sh &&& 0x3f).toInt64.toUInt64).toInt64)), .second] [(.int (64 : Int32)), (.long (W (p1.toNatClampNeg * w.toNatClampNeg / 64 + 1))), (.long (((W (p1.toNatClampNeg * w.toNatClampNeg / 64)).toUInt64 >>> (sh &&& 0x3f).toInt64.toUInt64).toInt64))])) _
      refine XS.iload X27.here hx rfl (hb hby d12_87) rfl ?_
      show Steps p.tables e below (T27.setTop (mkF m 89 #[.val (.ref a1), .val (.int p1), .val (.long bt), .second, .val (.long wd), .second, .val (.int sh), .val (.long (((W (p1.toNatClampNeg * w.toNatClampNeg / 64)).toUInt64 >>> (sh &&& 0x3f).toInt64.toUInt64).toInt64)), .second] [(.int sh), (.int (64 : Int32)), (.long (W (p1.toNatClampNeg * w.toNatClampNeg / 64 + 1))), (.long (((W (p1.toNatClampNeg * w.toNatClampNeg / 64)).toUInt64 >>> (sh &&& 0x3f).toInt64.toUInt64).toInt64))])) _
      refine XS.isub X27.here hx rfl (hb hby d12_89) rfl ?_
      show Steps p.tables e below (T27.setTop (mkF m 90 #[.val (.ref a1), .val (.int p1), .val (.long bt), .second, .val (.long wd), .second, .val (.int sh), .val (.long (((W (p1.toNatClampNeg * w.toNatClampNeg / 64)).toUInt64 >>> (sh &&& 0x3f).toInt64.toUInt64).toInt64)), .second] [(.int ((64 : Int32) - sh)), (.long (W (p1.toNatClampNeg * w.toNatClampNeg / 64 + 1))), (.long (((W (p1.toNatClampNeg * w.toNatClampNeg / 64)).toUInt64 >>> (sh &&& 0x3f).toInt64.toUInt64).toInt64))])) _
      refine XS.lshl X27.here hx rfl (hb hby d12_90) rfl ?_
      show Steps p.tables e below (T27.setTop (mkF m 91 #[.val (.ref a1), .val (.int p1), .val (.long bt), .second, .val (.long wd), .second, .val (.int sh), .val (.long (((W (p1.toNatClampNeg * w.toNatClampNeg / 64)).toUInt64 >>> (sh &&& 0x3f).toInt64.toUInt64).toInt64)), .second] [(.long ((W (p1.toNatClampNeg * w.toNatClampNeg / 64 + 1)) <<< (((64 : Int32) - sh) &&& 0x3f).toInt64)), (.long (((W (p1.toNatClampNeg * w.toNatClampNeg / 64)).toUInt64 >>> (sh &&& 0x3f).toInt64.toUInt64).toInt64))])) _
      refine XS.lor X27.here hx rfl (hb hby d12_91) rfl ?_
      show Steps p.tables e below (T27.setTop (mkF m 92 #[.val (.ref a1), .val (.int p1), .val (.long bt), .second, .val (.long wd), .second, .val (.int sh), .val (.long (((W (p1.toNatClampNeg * w.toNatClampNeg / 64)).toUInt64 >>> (sh &&& 0x3f).toInt64.toUInt64).toInt64)), .second] [(.long ((((W (p1.toNatClampNeg * w.toNatClampNeg / 64)).toUInt64 >>> (sh &&& 0x3f).toInt64.toUInt64).toInt64) ||| ((W (p1.toNatClampNeg * w.toNatClampNeg / 64 + 1)) <<< (((64 : Int32) - sh) &&& 0x3f).toInt64)))])) _
      refine XS.lstore X27.here hx rfl (hb hby d12_92) rfl (l' := #[.val (.ref a1), .val (.int p1), .val (.long bt), .second, .val (.long wd), .second, .val (.int sh), .val (.long ((((W (p1.toNatClampNeg * w.toNatClampNeg / 64)).toUInt64 >>> (sh &&& 0x3f).toInt64.toUInt64).toInt64) ||| ((W (p1.toNatClampNeg * w.toNatClampNeg / 64 + 1)) <<< (((64 : Int32) - sh) &&& 0x3f).toInt64))), .second]) rfl ?_
      show Steps p.tables e below (T27.setTop (mkF m 94 #[.val (.ref a1), .val (.int p1), .val (.long bt), .second, .val (.long wd), .second, .val (.int sh), .val (.long ((((W (p1.toNatClampNeg * w.toNatClampNeg / 64)).toUInt64 >>> (sh &&& 0x3f).toInt64.toUInt64).toInt64) ||| ((W (p1.toNatClampNeg * w.toNatClampNeg / 64 + 1)) <<< (((64 : Int32) - sh) &&& 0x3f).toInt64))), .second] [])) _
      refine XS.lload X27.here hx rfl (hb hby d12_94) rfl ?_
      show Steps p.tables e below (T27.setTop (mkF m 96 #[.val (.ref a1), .val (.int p1), .val (.long bt), .second, .val (.long wd), .second, .val (.int sh), .val (.long ((((W (p1.toNatClampNeg * w.toNatClampNeg / 64)).toUInt64 >>> (sh &&& 0x3f).toInt64.toUInt64).toInt64) ||| ((W (p1.toNatClampNeg * w.toNatClampNeg / 64 + 1)) <<< (((64 : Int32) - sh) &&& 0x3f).toInt64))), .second] [(.long ((((W (p1.toNatClampNeg * w.toNatClampNeg / 64)).toUInt64 >>> (sh &&& 0x3f).toInt64.toUInt64).toInt64) ||| ((W (p1.toNatClampNeg * w.toNatClampNeg / 64 + 1)) <<< (((64 : Int32) - sh) &&& 0x3f).toInt64)))])) _
      refine XS.aloadN X27.here hx rfl (hb hby d12_96) rfl rfl ?_
      show Steps p.tables e below (T27.setTop (mkF m 97 #[.val (.ref a1), .val (.int p1), .val (.long bt), .second, .val (.long wd), .second, .val (.int sh), .val (.long ((((W (p1.toNatClampNeg * w.toNatClampNeg / 64)).toUInt64 >>> (sh &&& 0x3f).toInt64.toUInt64).toInt64) ||| ((W (p1.toNatClampNeg * w.toNatClampNeg / 64 + 1)) <<< (((64 : Int32) - sh) &&& 0x3f).toInt64))), .second] [(.ref a1), (.long ((((W (p1.toNatClampNeg * w.toNatClampNeg / 64)).toUInt64 >>> (sh &&& 0x3f).toInt64.toUInt64).toInt64) ||| ((W (p1.toNatClampNeg * w.toNatClampNeg / 64 + 1)) <<< (((64 : Int32) - sh) &&& 0x3f).toInt64)))])) _
      exact k
    obtain ⟨T36, X36, e36, st36⟩ := getF X27 hx hZ hown (host := "") (Or.inl (hw _ (List.mem_of_getElem? (i := 36) rfl))) Via.refl e27 Fm0 (g := (mkF m 97 #[.val (.ref a1), .val (.int p1), .val (.long bt), .second, .val (.long wd), .second, .val (.int sh), .val (.long ((((W (p1.toNatClampNeg * w.toNatClampNeg / 64)).toUInt64 >>> (sh &&& 0x3f).toInt64.toUInt64).toInt64) ||| ((W (p1.toNatClampNeg * w.toNatClampNeg / 64 + 1)) <<< (((64 : Int32) - sh) &&& 0x3f).toInt64))), .second] [(.ref a1), (.long ((((W (p1.toNatClampNeg * w.toNatClampNeg / 64)).toUInt64 >>> (sh &&& 0x3f).toInt64.toUInt64).toInt64) ||| ((W (p1.toNatClampNeg * w.toNatClampNeg / 64 + 1)) <<< (((64 : Int32) - sh) &&& 0x3f).toInt64)))])) rfl rfl (hb hby d12_97)
    have K37 : ∀ t, Steps p.tables e below (T36.setTop (mkF m 100 #[.val (.ref a1), .val (.int p1), .val (.long bt), .second, .val (.long wd), .second, .val (.int sh), .val (.long ((((W (p1.toNatClampNeg * w.toNatClampNeg / 64)).toUInt64 >>> (sh &&& 0x3f).toInt64.toUInt64).toInt64) ||| ((W (p1.toNatClampNeg * w.toNatClampNeg / 64 + 1)) <<< (((64 : Int32) - sh) &&& 0x3f).toInt64))), .second] [(.long mk), (.long ((((W (p1.toNatClampNeg * w.toNatClampNeg / 64)).toUInt64 >>> (sh &&& 0x3f).toInt64.toUInt64).toInt64) ||| ((W (p1.toNatClampNeg * w.toNatClampNeg / 64 + 1)) <<< (((64 : Int32) - sh) &&& 0x3f).toInt64)))])) t → Steps p.tables e below G t := fun t k => K35 t (st36 t k)
    obtain ⟨fs, hr, hrun, hended, hW, hsame⟩ := X36.leave (v := some (.long (((((W (p1.toNatClampNeg * w.toNatClampNeg / 64)).toUInt64 >>> (sh &&& 0x3f).toInt64.toUInt64).toInt64) ||| ((W (p1.toNatClampNeg * w.toNatClampNeg / 64 + 1)) <<< (((64 : Int32) - sh) &&& 0x3f).toInt64)) &&& mk))) (fun h => by rw [Bd.returns] at h; cases h)
    have KF := K37
    rw [hG] at KF
    refine ⟨_, _, KF _ ?_, hrun, hended, _, _, rfl, ?_, ⟨_, rfl⟩, hW, hsame.mono (by decide) (by decide)⟩
    · show Steps p.tables e below (T36.setTop (mkF m 100 #[.val (.ref a1), .val (.int p1), .val (.long bt), .second, .val (.long wd), .second, .val (.int sh), .val (.long ((((W (p1.toNatClampNeg * w.toNatClampNeg / 64)).toUInt64 >>> (sh &&& 0x3f).toInt64.toUInt64).toInt64) ||| ((W (p1.toNatClampNeg * w.toNatClampNeg / 64 + 1)) <<< (((64 : Int32) - sh) &&& 0x3f).toInt64))), .second] [(.long mk), (.long ((((W (p1.toNatClampNeg * w.toNatClampNeg / 64)).toUInt64 >>> (sh &&& 0x3f).toInt64.toUInt64).toInt64) ||| ((W (p1.toNatClampNeg * w.toNatClampNeg / 64 + 1)) <<< (((64 : Int32) - sh) &&& 0x3f).toInt64)))])) _
      refine XS.land X36.here hx rfl (hb hby d12_100) rfl ?_
      show Steps p.tables e below (T36.setTop (mkF m 101 #[.val (.ref a1), .val (.int p1), .val (.long bt), .second, .val (.long wd), .second, .val (.int sh), .val (.long ((((W (p1.toNatClampNeg * w.toNatClampNeg / 64)).toUInt64 >>> (sh &&& 0x3f).toInt64.toUInt64).toInt64) ||| ((W (p1.toNatClampNeg * w.toNatClampNeg / 64 + 1)) <<< (((64 : Int32) - sh) &&& 0x3f).toInt64))), .second] [(.long (((((W (p1.toNatClampNeg * w.toNatClampNeg / 64)).toUInt64 >>> (sh &&& 0x3f).toInt64.toUInt64).toInt64) ||| ((W (p1.toNatClampNeg * w.toNatClampNeg / 64 + 1)) <<< (((64 : Int32) - sh) &&& 0x3f).toInt64)) &&& mk))])) _
      exact own_retL X36 hx Bd.returns (hb hby d12_101) hr
    · show Q12 w W p1 h0 n0 _ T36.heap _
      rw [e36]
      refine ⟨_, rfl, N0, rfl, ?_⟩
      have hr := own_rem es h0s
      rw [Int64.toBitVec_and, Int64.toBitVec_or, own_ushr _ sh _ es (by omega), own_shl _ _ _ hr (by omega), hm, own_getW, if_pos hcr]
  · have K38 : ∀ t, Steps p.tables e below (T21.setTop (mkF m 97 #[.val (.ref a1), .val (.int p1), .val (.long bt), .second, .val (.long wd), .second, .val (.int sh), .val (.long (((W (p1.toNatClampNeg * w.toNatClampNeg / 64)).toUInt64 >>> (sh &&& 0x3f).toInt64.toUInt64).toInt64)), .second] [(.ref a1), (.long (((W (p1.toNatClampNeg * w.toNatClampNeg / 64)).toUInt64 >>> (sh &&& 0x3f).toInt64.toUInt64).toInt64))])) t → Steps p.tables e below G t := by
      intro t k
      refine K23 t ?_
      show Steps p.tables e below (T21.setTop (mkF m 57 #[.val (.ref a1), .val (.int p1), .val (.long bt), .second, .val (.long wd), .second, .val (.int sh), .val (.long (((W (p1.toNatClampNeg * w.toNatClampNeg / 64)).toUInt64 >>> (sh &&& 0x3f).toInt64.toUInt64).toInt64)), .second] [(.int (64 : Int32)), (.int (sh + w))])) _
      refine XS.icmpYes X21.here hx rfl (pc0 := 57) (pc' := 94) rfl (hb hby d12_57) rfl (flt hc24).2.2.2 (by decide) (by decide) ?_
      show Steps p.tables e below (T21.setTop (mkF m 94 #[.val (.ref a1), .val (.int p1), .val (.long bt), .second, .val (.long wd), .second, .val (.int sh), .val (.long (((W (p1.toNatClampNeg * w.toNatClampNeg / 64)).toUInt64 >>> (sh &&& 0x3f).toInt64.toUInt64).toInt64)), .second] [])) _
      refine XS.lload X21.here hx rfl (hb hby d12_94) rfl ?_
      show Steps p.tables e below (T21.setTop (mkF m 96 #[.val (.ref a1), .val (.int p1), .val (.long bt), .second, .val (.long wd), .second, .val (.int sh), .val (.long (((W (p1.toNatClampNeg * w.toNatClampNeg / 64)).toUInt64 >>> (sh &&& 0x3f).toInt64.toUInt64).toInt64)), .second] [(.long (((W (p1.toNatClampNeg * w.toNatClampNeg / 64)).toUInt64 >>> (sh &&& 0x3f).toInt64.toUInt64).toInt64))])) _
      refine XS.aloadN X21.here hx rfl (hb hby d12_96) rfl rfl ?_
      show Steps p.tables e below (T21.setTop (mkF m 97 #[.val (.ref a1), .val (.int p1), .val (.long bt), .second, .val (.long wd), .second, .val (.int sh), .val (.long (((W (p1.toNatClampNeg * w.toNatClampNeg / 64)).toUInt64 >>> (sh &&& 0x3f).toInt64.toUInt64).toInt64)), .second] [(.ref a1), (.long (((W (p1.toNatClampNeg * w.toNatClampNeg / 64)).toUInt64 >>> (sh &&& 0x3f).toInt64.toUInt64).toInt64))])) _
      exact k
    obtain ⟨T39, X39, e39, st39⟩ := getF X21 hx hZ hown (host := "") (Or.inl (hw _ (List.mem_of_getElem? (i := 36) rfl))) Via.refl e21 Fm0 (g := (mkF m 97 #[.val (.ref a1), .val (.int p1), .val (.long bt), .second, .val (.long wd), .second, .val (.int sh), .val (.long (((W (p1.toNatClampNeg * w.toNatClampNeg / 64)).toUInt64 >>> (sh &&& 0x3f).toInt64.toUInt64).toInt64)), .second] [(.ref a1), (.long (((W (p1.toNatClampNeg * w.toNatClampNeg / 64)).toUInt64 >>> (sh &&& 0x3f).toInt64.toUInt64).toInt64))])) rfl rfl (hb hby d12_97)
    have K40 : ∀ t, Steps p.tables e below (T39.setTop (mkF m 100 #[.val (.ref a1), .val (.int p1), .val (.long bt), .second, .val (.long wd), .second, .val (.int sh), .val (.long (((W (p1.toNatClampNeg * w.toNatClampNeg / 64)).toUInt64 >>> (sh &&& 0x3f).toInt64.toUInt64).toInt64)), .second] [(.long mk), (.long (((W (p1.toNatClampNeg * w.toNatClampNeg / 64)).toUInt64 >>> (sh &&& 0x3f).toInt64.toUInt64).toInt64))])) t → Steps p.tables e below G t := fun t k => K38 t (st39 t k)
    obtain ⟨fs, hr, hrun, hended, hW, hsame⟩ := X39.leave (v := some (.long ((((W (p1.toNatClampNeg * w.toNatClampNeg / 64)).toUInt64 >>> (sh &&& 0x3f).toInt64.toUInt64).toInt64) &&& mk))) (fun h => by rw [Bd.returns] at h; cases h)
    have KF := K40
    rw [hG] at KF
    refine ⟨_, _, KF _ ?_, hrun, hended, _, _, rfl, ?_, ⟨_, rfl⟩, hW, hsame.mono (by decide) (by decide)⟩
    · show Steps p.tables e below (T39.setTop (mkF m 100 #[.val (.ref a1), .val (.int p1), .val (.long bt), .second, .val (.long wd), .second, .val (.int sh), .val (.long (((W (p1.toNatClampNeg * w.toNatClampNeg / 64)).toUInt64 >>> (sh &&& 0x3f).toInt64.toUInt64).toInt64)), .second] [(.long mk), (.long (((W (p1.toNatClampNeg * w.toNatClampNeg / 64)).toUInt64 >>> (sh &&& 0x3f).toInt64.toUInt64).toInt64))])) _
      refine XS.land X39.here hx rfl (hb hby d12_100) rfl ?_
      show Steps p.tables e below (T39.setTop (mkF m 101 #[.val (.ref a1), .val (.int p1), .val (.long bt), .second, .val (.long wd), .second, .val (.int sh), .val (.long (((W (p1.toNatClampNeg * w.toNatClampNeg / 64)).toUInt64 >>> (sh &&& 0x3f).toInt64.toUInt64).toInt64)), .second] [(.long ((((W (p1.toNatClampNeg * w.toNatClampNeg / 64)).toUInt64 >>> (sh &&& 0x3f).toInt64.toUInt64).toInt64) &&& mk))])) _
      exact own_retL X39 hx Bd.returns (hb hby d12_101) hr
    · show Q12 w W p1 h0 n0 _ T39.heap _
      rw [e39]
      refine ⟨_, rfl, N0, rfl, ?_⟩
      rw [Int64.toBitVec_and, own_ushr _ sh _ es (by omega), hm, own_getW, if_neg (fun q => hc24 ((own_cross es hwd).mpr q)), BitVec.or_zero]
def own_nl (r : Int32) (U : Nat) : Prop := (U = 0 ∧ r.toInt = 32) ∨ ∃ c : Nat, c ≤ 31 ∧ r.toInt = 31 - c ∧ 2 ^ c ≤ U ∧ U < 2 ^ (c + 1)
def own_nl6 (r : Int32) (U : Nat) : Prop := (U = 0 ∧ r.toInt = 64) ∨ ∃ c : Nat, c ≤ 63 ∧ r.toInt = 63 - c ∧ 2 ^ c ≤ U ∧ U < 2 ^ (c + 1)
set_option maxHeartbeats 40000000 in
theorem own_nl32 {p i1 i2 i3 i4 n1 n2 n3 n4 : Int32} (h0 : (0 : Int32) < p) (e1 : i1 = if p < (65536 : Int32) then p else (p.toUInt32 >>> ((16 : Int32) &&& 31).toUInt32).toInt32) (m1 : n1 = if p < (65536 : Int32) then (31 : Int32) else (15 : Int32))
    (e2 : i2 = if i1 < (256 : Int32) then i1 else (i1.toUInt32 >>> ((8 : Int32) &&& 31).toUInt32).toInt32) (m2 : n2 = if i1 < (256 : Int32) then n1 else n1 + (-8 : Int32)) (e3 : i3 = if i2 < (16 : Int32) then i2 else (i2.toUInt32 >>> ((4 : Int32) &&& 31).toUInt32).toInt32) (m3 : n3 = if i2 < (16 : Int32) then n2 else n2 + (-4 : Int32))
    (e4 : i4 = if i3 < (4 : Int32) then i3 else (i3.toUInt32 >>> ((2 : Int32) &&& 31).toUInt32).toInt32) (m4 : n4 = if i3 < (4 : Int32) then n3 else n3 + (-2 : Int32)) : own_nl (n4 - (i4.toUInt32 >>> ((1 : Int32) &&& 31).toUInt32).toInt32) p.toBitVec.toNat := by
  have z0 : (0 : Int32).toInt = 0 := rfl
  have hp : p.toBitVec.toInt = p.toInt := rfl
  have hp0 : 0 < p.toInt := by rw [Int32.lt_iff_toInt_lt] at h0; omega
  have hu : (p.toBitVec.toNat : Int) = p.toInt := by rw [← hp, BitVec.toInt_eq_toNat_cond]; rw [← hp, BitVec.toInt_eq_toNat_cond] at hp0; have := p.toBitVec.isLt; split <;> (split at hp0 <;> omega)
  have s16 := c_iushr p 16 16 (by decide) (by decide)
  have s8 := c_iushr i1 8 8 (by decide) (by decide)
  have s4 := c_iushr i2 4 4 (by decide) (by decide)
  have s2 := c_iushr i3 2 2 (by decide) (by decide)
  have s1 := c_iushr i4 1 1 (by decide) (by decide)
  have r := rng32 p
  have k16 : (65536 : Int32).toInt = 65536 := rfl
  have k8 : (256 : Int32).toInt = 256 := rfl
  have k4 : (16 : Int32).toInt = 16 := rfl
  have k2 : (4 : Int32).toInt = 4 := rfl
  have sb := c_isub n4 (i4.toUInt32 >>> ((1 : Int32) &&& 31).toUInt32).toInt32
  have rb := rng32 (n4 - (i4.toUInt32 >>> ((1 : Int32) &&& 31).toUInt32).toInt32)
  simp only [Int32.lt_iff_toInt_lt, k16, k8, k4, k2] at e1 m1 e2 m2 e3 m3 e4 m4
  by_cases c1 : p.toInt < 65536
  · rw [if_pos c1] at e1 m1
    have q1 : i1.toInt = p.toInt := by rw [e1]
    by_cases c2 : i1.toInt < 256
    · rw [if_pos c2] at e2 m2
      have q2 : i2.toInt = i1.toInt := by rw [e2]
      by_cases c3 : i2.toInt < 16
      · rw [if_pos c3] at e3 m3
        have q3 : i3.toInt = i2.toInt := by rw [e3]
        by_cases c4 : i3.toInt < 4
        · rw [if_pos c4] at e4 m4
          have q4 : i4.toInt = i3.toInt := by rw [e4]
          have hn4 : n4.toInt = 31 := by rw [m4, m3, m2, m1]; rfl
          rcases (show i4.toInt / 2 = 0 ∨ i4.toInt / 2 = 1 by omega) with q | q
          · exact Or.inr ⟨0, by omega, by omega, by show (2 : Nat) ^ 0 ≤ _; omega, by show _ < (2 : Nat) ^ 1; omega⟩
          · exact Or.inr ⟨1, by omega, by omega, by show (2 : Nat) ^ 1 ≤ _; omega, by show _ < (2 : Nat) ^ 2; omega⟩
        · rw [if_neg c4] at e4 m4
          have q4 : i4.toInt = i3.toInt / 4 := by rw [e4, s2]; omega
          have hn4 : n4.toInt = 29 := by rw [m4, m3, m2, m1]; rfl
          rcases (show i4.toInt / 2 = 0 ∨ i4.toInt / 2 = 1 by omega) with q | q
          · exact Or.inr ⟨2, by omega, by omega, by show (2 : Nat) ^ 2 ≤ _; omega, by show _ < (2 : Nat) ^ 3; omega⟩
          · exact Or.inr ⟨3, by omega, by omega, by show (2 : Nat) ^ 3 ≤ _; omega, by show _ < (2 : Nat) ^ 4; omega⟩
      · rw [if_neg c3] at e3 m3
        have q3 : i3.toInt = i2.toInt / 16 := by rw [e3, s4]; omega
        by_cases c4 : i3.toInt < 4
        · rw [if_pos c4] at e4 m4
          have q4 : i4.toInt = i3.toInt := by rw [e4]
          have hn4 : n4.toInt = 27 := by rw [m4, m3, m2, m1]; rfl
          rcases (show i4.toInt / 2 = 0 ∨ i4.toInt / 2 = 1 by omega) with q | q
          · exact Or.inr ⟨4, by omega, by omega, by show (2 : Nat) ^ 4 ≤ _; omega, by show _ < (2 : Nat) ^ 5; omega⟩
          · exact Or.inr ⟨5, by omega, by omega, by show (2 : Nat) ^ 5 ≤ _; omega, by show _ < (2 : Nat) ^ 6; omega⟩
        · rw [if_neg c4] at e4 m4
          have q4 : i4.toInt = i3.toInt / 4 := by rw [e4, s2]; omega
          have hn4 : n4.toInt = 25 := by rw [m4, m3, m2, m1]; rfl
          rcases (show i4.toInt / 2 = 0 ∨ i4.toInt / 2 = 1 by omega) with q | q
          · exact Or.inr ⟨6, by omega, by omega, by show (2 : Nat) ^ 6 ≤ _; omega, by show _ < (2 : Nat) ^ 7; omega⟩
          · exact Or.inr ⟨7, by omega, by omega, by show (2 : Nat) ^ 7 ≤ _; omega, by show _ < (2 : Nat) ^ 8; omega⟩
    · rw [if_neg c2] at e2 m2
      have q2 : i2.toInt = i1.toInt / 256 := by rw [e2, s8]; omega
      by_cases c3 : i2.toInt < 16
      · rw [if_pos c3] at e3 m3
        have q3 : i3.toInt = i2.toInt := by rw [e3]
        by_cases c4 : i3.toInt < 4
        · rw [if_pos c4] at e4 m4
          have q4 : i4.toInt = i3.toInt := by rw [e4]
          have hn4 : n4.toInt = 23 := by rw [m4, m3, m2, m1]; rfl
          rcases (show i4.toInt / 2 = 0 ∨ i4.toInt / 2 = 1 by omega) with q | q
          · exact Or.inr ⟨8, by omega, by omega, by show (2 : Nat) ^ 8 ≤ _; omega, by show _ < (2 : Nat) ^ 9; omega⟩
          · exact Or.inr ⟨9, by omega, by omega, by show (2 : Nat) ^ 9 ≤ _; omega, by show _ < (2 : Nat) ^ 10; omega⟩
        · rw [if_neg c4] at e4 m4
          have q4 : i4.toInt = i3.toInt / 4 := by rw [e4, s2]; omega
          have hn4 : n4.toInt = 21 := by rw [m4, m3, m2, m1]; rfl
          rcases (show i4.toInt / 2 = 0 ∨ i4.toInt / 2 = 1 by omega) with q | q
          · exact Or.inr ⟨10, by omega, by omega, by show (2 : Nat) ^ 10 ≤ _; omega, by show _ < (2 : Nat) ^ 11; omega⟩
          · exact Or.inr ⟨11, by omega, by omega, by show (2 : Nat) ^ 11 ≤ _; omega, by show _ < (2 : Nat) ^ 12; omega⟩
      · rw [if_neg c3] at e3 m3
        have q3 : i3.toInt = i2.toInt / 16 := by rw [e3, s4]; omega
        by_cases c4 : i3.toInt < 4
        · rw [if_pos c4] at e4 m4
          have q4 : i4.toInt = i3.toInt := by rw [e4]
          have hn4 : n4.toInt = 19 := by rw [m4, m3, m2, m1]; rfl
          rcases (show i4.toInt / 2 = 0 ∨ i4.toInt / 2 = 1 by omega) with q | q
          · exact Or.inr ⟨12, by omega, by omega, by show (2 : Nat) ^ 12 ≤ _; omega, by show _ < (2 : Nat) ^ 13; omega⟩
          · exact Or.inr ⟨13, by omega, by omega, by show (2 : Nat) ^ 13 ≤ _; omega, by show _ < (2 : Nat) ^ 14; omega⟩
        · rw [if_neg c4] at e4 m4
          have q4 : i4.toInt = i3.toInt / 4 := by rw [e4, s2]; omega
          have hn4 : n4.toInt = 17 := by rw [m4, m3, m2, m1]; rfl
          rcases (show i4.toInt / 2 = 0 ∨ i4.toInt / 2 = 1 by omega) with q | q
          · exact Or.inr ⟨14, by omega, by omega, by show (2 : Nat) ^ 14 ≤ _; omega, by show _ < (2 : Nat) ^ 15; omega⟩
          · exact Or.inr ⟨15, by omega, by omega, by show (2 : Nat) ^ 15 ≤ _; omega, by show _ < (2 : Nat) ^ 16; omega⟩
  · rw [if_neg c1] at e1 m1
    have q1 : i1.toInt = p.toInt / 65536 := by rw [e1, s16]; omega
    by_cases c2 : i1.toInt < 256
    · rw [if_pos c2] at e2 m2
      have q2 : i2.toInt = i1.toInt := by rw [e2]
      by_cases c3 : i2.toInt < 16
      · rw [if_pos c3] at e3 m3
        have q3 : i3.toInt = i2.toInt := by rw [e3]
        by_cases c4 : i3.toInt < 4
        · rw [if_pos c4] at e4 m4
          have q4 : i4.toInt = i3.toInt := by rw [e4]
          have hn4 : n4.toInt = 15 := by rw [m4, m3, m2, m1]; rfl
          rcases (show i4.toInt / 2 = 0 ∨ i4.toInt / 2 = 1 by omega) with q | q
          · exact Or.inr ⟨16, by omega, by omega, by show (2 : Nat) ^ 16 ≤ _; omega, by show _ < (2 : Nat) ^ 17; omega⟩
          · exact Or.inr ⟨17, by omega, by omega, by show (2 : Nat) ^ 17 ≤ _; omega, by show _ < (2 : Nat) ^ 18; omega⟩
        · rw [if_neg c4] at e4 m4
          have q4 : i4.toInt = i3.toInt / 4 := by rw [e4, s2]; omega
          have hn4 : n4.toInt = 13 := by rw [m4, m3, m2, m1]; rfl
          rcases (show i4.toInt / 2 = 0 ∨ i4.toInt / 2 = 1 by omega) with q | q
          · exact Or.inr ⟨18, by omega, by omega, by show (2 : Nat) ^ 18 ≤ _; omega, by show _ < (2 : Nat) ^ 19; omega⟩
          · exact Or.inr ⟨19, by omega, by omega, by show (2 : Nat) ^ 19 ≤ _; omega, by show _ < (2 : Nat) ^ 20; omega⟩
      · rw [if_neg c3] at e3 m3
        have q3 : i3.toInt = i2.toInt / 16 := by rw [e3, s4]; omega
        by_cases c4 : i3.toInt < 4
        · rw [if_pos c4] at e4 m4
          have q4 : i4.toInt = i3.toInt := by rw [e4]
          have hn4 : n4.toInt = 11 := by rw [m4, m3, m2, m1]; rfl
          rcases (show i4.toInt / 2 = 0 ∨ i4.toInt / 2 = 1 by omega) with q | q
          · exact Or.inr ⟨20, by omega, by omega, by show (2 : Nat) ^ 20 ≤ _; omega, by show _ < (2 : Nat) ^ 21; omega⟩
          · exact Or.inr ⟨21, by omega, by omega, by show (2 : Nat) ^ 21 ≤ _; omega, by show _ < (2 : Nat) ^ 22; omega⟩
        · rw [if_neg c4] at e4 m4
          have q4 : i4.toInt = i3.toInt / 4 := by rw [e4, s2]; omega
          have hn4 : n4.toInt = 9 := by rw [m4, m3, m2, m1]; rfl
          rcases (show i4.toInt / 2 = 0 ∨ i4.toInt / 2 = 1 by omega) with q | q
          · exact Or.inr ⟨22, by omega, by omega, by show (2 : Nat) ^ 22 ≤ _; omega, by show _ < (2 : Nat) ^ 23; omega⟩
          · exact Or.inr ⟨23, by omega, by omega, by show (2 : Nat) ^ 23 ≤ _; omega, by show _ < (2 : Nat) ^ 24; omega⟩
    · rw [if_neg c2] at e2 m2
      have q2 : i2.toInt = i1.toInt / 256 := by rw [e2, s8]; omega
      by_cases c3 : i2.toInt < 16
      · rw [if_pos c3] at e3 m3
        have q3 : i3.toInt = i2.toInt := by rw [e3]
        by_cases c4 : i3.toInt < 4
        · rw [if_pos c4] at e4 m4
          have q4 : i4.toInt = i3.toInt := by rw [e4]
          have hn4 : n4.toInt = 7 := by rw [m4, m3, m2, m1]; rfl
          rcases (show i4.toInt / 2 = 0 ∨ i4.toInt / 2 = 1 by omega) with q | q
          · exact Or.inr ⟨24, by omega, by omega, by show (2 : Nat) ^ 24 ≤ _; omega, by show _ < (2 : Nat) ^ 25; omega⟩
          · exact Or.inr ⟨25, by omega, by omega, by show (2 : Nat) ^ 25 ≤ _; omega, by show _ < (2 : Nat) ^ 26; omega⟩
        · rw [if_neg c4] at e4 m4
          have q4 : i4.toInt = i3.toInt / 4 := by rw [e4, s2]; omega
          have hn4 : n4.toInt = 5 := by rw [m4, m3, m2, m1]; rfl
          rcases (show i4.toInt / 2 = 0 ∨ i4.toInt / 2 = 1 by omega) with q | q
          · exact Or.inr ⟨26, by omega, by omega, by show (2 : Nat) ^ 26 ≤ _; omega, by show _ < (2 : Nat) ^ 27; omega⟩
          · exact Or.inr ⟨27, by omega, by omega, by show (2 : Nat) ^ 27 ≤ _; omega, by show _ < (2 : Nat) ^ 28; omega⟩
      · rw [if_neg c3] at e3 m3
        have q3 : i3.toInt = i2.toInt / 16 := by rw [e3, s4]; omega
        by_cases c4 : i3.toInt < 4
        · rw [if_pos c4] at e4 m4
          have q4 : i4.toInt = i3.toInt := by rw [e4]
          have hn4 : n4.toInt = 3 := by rw [m4, m3, m2, m1]; rfl
          rcases (show i4.toInt / 2 = 0 ∨ i4.toInt / 2 = 1 by omega) with q | q
          · exact Or.inr ⟨28, by omega, by omega, by show (2 : Nat) ^ 28 ≤ _; omega, by show _ < (2 : Nat) ^ 29; omega⟩
          · exact Or.inr ⟨29, by omega, by omega, by show (2 : Nat) ^ 29 ≤ _; omega, by show _ < (2 : Nat) ^ 30; omega⟩
        · rw [if_neg c4] at e4 m4
          have q4 : i4.toInt = i3.toInt / 4 := by rw [e4, s2]; omega
          have hn4 : n4.toInt = 1 := by rw [m4, m3, m2, m1]; rfl
          rcases (show i4.toInt / 2 = 0 ∨ i4.toInt / 2 = 1 by omega) with q | q
          · exact Or.inr ⟨30, by omega, by omega, by show (2 : Nat) ^ 30 ≤ _; omega, by show _ < (2 : Nat) ^ 31; omega⟩
          · exact Or.inr ⟨31, by omega, by omega, by show (2 : Nat) ^ 31 ≤ _; omega, by show _ < (2 : Nat) ^ 32; omega⟩
def Q6 (p1 : Int32) (h0 : Heap) (n0 : Nat) (v : Option Value) (h : Heap) (L : List Loc) : Prop := ∃ r : Int32, v = some (.int r) ∧ Fr n0 L ∧ h = h0 ∧ own_nl r p1.toBitVec.toNat
theorem own_nl_np {p : Int32} (h : ¬ (0 : Int32) < p) (h2 : ¬ p = 0) : own_nl 0 p.toBitVec.toNat := by
  have z0 : (0 : Int32).toInt = 0 := rfl
  have hp : p.toBitVec.toInt = p.toInt := rfl
  have hl := p.toBitVec.isLt
  have hn : p.toInt ≠ 0 := fun q => h2 (Int32.toInt_inj.mp q)
  rw [Int32.lt_iff_toInt_lt] at h
  rw [BitVec.toInt_eq_toNat_cond] at hp
  refine Or.inr ⟨31, by omega, rfl, ?_, ?_⟩
  · show 2147483648 ≤ _; split at hp <;> omega
  · show _ < 4294967296; omega
theorem d6_0 : decode jdk_33_method_47_code 0 = .ok (.iload_n 0, 1) := by decide +kernel
theorem d6_1 : decode jdk_33_method_47_code 1 = .ok (.ifCond .gt 14, 3) := by decide +kernel
theorem d6_4 : decode jdk_33_method_47_code 4 = .ok (.iload_n 0, 1) := by decide +kernel
theorem d6_5 : decode jdk_33_method_47_code 5 = .ok (.ifCond .ne 8, 3) := by decide +kernel
theorem d6_8 : decode jdk_33_method_47_code 8 = .ok (.bipush 32, 2) := by decide +kernel
theorem d6_10 : decode jdk_33_method_47_code 10 = .ok (.goto 4, 3) := by decide +kernel
theorem d6_13 : decode jdk_33_method_47_code 13 = .ok (.iconst 0, 1) := by decide +kernel
theorem d6_14 : decode jdk_33_method_47_code 14 = .ok (.ireturn, 1) := by decide +kernel
theorem d6_15 : decode jdk_33_method_47_code 15 = .ok (.bipush 31, 2) := by decide +kernel
theorem d6_17 : decode jdk_33_method_47_code 17 = .ok (.istore_n 1, 1) := by decide +kernel
theorem d6_18 : decode jdk_33_method_47_code 18 = .ok (.iload_n 0, 1) := by decide +kernel
theorem d6_19 : decode jdk_33_method_47_code 19 = .ok (.ldc_w 264, 3) := by decide +kernel
theorem d6_22 : decode jdk_33_method_47_code 22 = .ok (.if_icmp .lt 11, 3) := by decide +kernel
theorem d6_25 : decode jdk_33_method_47_code 25 = .ok (.iinc 1 (-16), 3) := by decide +kernel
theorem d6_28 : decode jdk_33_method_47_code 28 = .ok (.iload_n 0, 1) := by decide +kernel
theorem d6_29 : decode jdk_33_method_47_code 29 = .ok (.bipush 16, 2) := by decide +kernel
theorem d6_31 : decode jdk_33_method_47_code 31 = .ok (.iushr, 1) := by decide +kernel
theorem d6_32 : decode jdk_33_method_47_code 32 = .ok (.istore_n 0, 1) := by decide +kernel
theorem d6_33 : decode jdk_33_method_47_code 33 = .ok (.iload_n 0, 1) := by decide +kernel
theorem d6_34 : decode jdk_33_method_47_code 34 = .ok (.sipush 256, 3) := by decide +kernel
theorem d6_37 : decode jdk_33_method_47_code 37 = .ok (.if_icmp .lt 11, 3) := by decide +kernel
theorem d6_40 : decode jdk_33_method_47_code 40 = .ok (.iinc 1 (-8), 3) := by decide +kernel
theorem d6_43 : decode jdk_33_method_47_code 43 = .ok (.iload_n 0, 1) := by decide +kernel
theorem d6_44 : decode jdk_33_method_47_code 44 = .ok (.bipush 8, 2) := by decide +kernel
theorem d6_46 : decode jdk_33_method_47_code 46 = .ok (.iushr, 1) := by decide +kernel
theorem d6_47 : decode jdk_33_method_47_code 47 = .ok (.istore_n 0, 1) := by decide +kernel
theorem d6_48 : decode jdk_33_method_47_code 48 = .ok (.iload_n 0, 1) := by decide +kernel
theorem d6_49 : decode jdk_33_method_47_code 49 = .ok (.bipush 16, 2) := by decide +kernel
theorem d6_51 : decode jdk_33_method_47_code 51 = .ok (.if_icmp .lt 10, 3) := by decide +kernel
theorem d6_54 : decode jdk_33_method_47_code 54 = .ok (.iinc 1 (-4), 3) := by decide +kernel
theorem d6_57 : decode jdk_33_method_47_code 57 = .ok (.iload_n 0, 1) := by decide +kernel
theorem d6_58 : decode jdk_33_method_47_code 58 = .ok (.iconst 4, 1) := by decide +kernel
theorem d6_59 : decode jdk_33_method_47_code 59 = .ok (.iushr, 1) := by decide +kernel
theorem d6_60 : decode jdk_33_method_47_code 60 = .ok (.istore_n 0, 1) := by decide +kernel
theorem d6_61 : decode jdk_33_method_47_code 61 = .ok (.iload_n 0, 1) := by decide +kernel
theorem d6_62 : decode jdk_33_method_47_code 62 = .ok (.iconst 4, 1) := by decide +kernel
theorem d6_63 : decode jdk_33_method_47_code 63 = .ok (.if_icmp .lt 10, 3) := by decide +kernel
theorem d6_66 : decode jdk_33_method_47_code 66 = .ok (.iinc 1 (-2), 3) := by decide +kernel
theorem d6_69 : decode jdk_33_method_47_code 69 = .ok (.iload_n 0, 1) := by decide +kernel
theorem d6_70 : decode jdk_33_method_47_code 70 = .ok (.iconst 2, 1) := by decide +kernel
theorem d6_71 : decode jdk_33_method_47_code 71 = .ok (.iushr, 1) := by decide +kernel
theorem d6_72 : decode jdk_33_method_47_code 72 = .ok (.istore_n 0, 1) := by decide +kernel
theorem d6_73 : decode jdk_33_method_47_code 73 = .ok (.iload_n 1, 1) := by decide +kernel
theorem d6_74 : decode jdk_33_method_47_code 74 = .ok (.iload_n 0, 1) := by decide +kernel
theorem d6_75 : decode jdk_33_method_47_code 75 = .ok (.iconst 1, 1) := by decide +kernel
theorem d6_76 : decode jdk_33_method_47_code 76 = .ok (.iushr, 1) := by decide +kernel
theorem d6_77 : decode jdk_33_method_47_code 77 = .ok (.isub, 1) := by decide +kernel
theorem d6_78 : decode jdk_33_method_47_code 78 = .ok (.ireturn, 1) := by decide +kernel
theorem pn_java_lang_Integer : plainName "java/lang/Integer" = true := by first | (simp [plainName, overriddenIn]; done) | decide +kernel
theorem ef_rm6 (m : MethodId) (x0 : Int32) : entryFrame m #[(.int x0)] 2 = mkF m 0 #[.val (.int x0), .unset] [] := by first | (simp [entryFrame, mkF, argsToLocals, Value.category]; done) | rfl
set_option maxRecDepth 65536 in
set_option maxHeartbeats 40000000 in
theorem rm6 (l : Launch) (Z : State) (a0 : Array Value) (hw : ∀ d ∈ tables_1, d.before a0 Z = true) (ws : List Jvm.Cond) (p1 : Int32) (h0 : Heap) (n0 : Nat) (Z0 : n0 ≤ h0.size) :
    MetFree l (⟨"java/lang/Integer", "numberOfLeadingZeros", "(I)I"⟩ : MethodName) (head1 (Jvm.Cond.code (⟨"java/lang/Integer", "numberOfLeadingZeros", "(I)I"⟩ : MethodName) jdk_33_method_47_code 2 (some .int) :: ws) ({ frames := 0, cells := 0, slots := 0, locals := 0 } : Room)) (fun a U => a = #[(.int p1)] ∧ Z.Warmed39 U.vm ∧ U.heap = h0) (fun _ _ _ _ _ => True) (fun _ U o U' => ∃ v L, o = .returned v ∧ Q6 p1 h0 n0 v U'.heap L ∧ FrameEnd U o U' L ({ frames := 0, cells := 0, slots := 0, locals := 0 } : Room).cells ({ frames := 0, cells := 0, slots := 0, locals := 0 } : Room).slots) := by
  refine MetFree.of_bodySF (plainFor_of_name pn_java_lang_Integer) hisR ?_
  intro p e s m args below meth c s₁ Bd hml0 hP hK
  obtain ⟨rfl, hZ, hh⟩ := hP
  have hx := Bd.exec
  have hby := Bd.bytes
  have hml : c.maxLocals = 2 := hml0
  have hown : s.vm.findClass "java/lang/Integer" = some m.cls := findClass_of_methodNamed Bd.named
  have hnm := (name_of_methodNamed Bd.named Bd.method).1
  have X0 : Stand p l e ({ frames := 0, cells := 0, slots := 0, locals := 0 } : Room) s m #[(.int p1)] below meth c s₁ [] 0 0 := Stand.of_body Bd
  have e0 : s₁.heap = h0 := by rw [← hh, Bd.state]; rfl
  have N0 := Fr.nil n0
  have KP0 : Keep h0 h0 [] := Keep.refl h0 _
  obtain ⟨G, hG⟩ : ∃ G : State, G = s₁.setTop (entryFrame m #[(.int p1)] 2) := ⟨_, rfl⟩
  have pre0 : ∀ t, Steps p.tables e below (s₁.setTop (mkF m 0 #[.val (.int p1), .unset] [])) t → Steps p.tables e below G t := fun t k => hG ▸ castTop (ef_rm6 m p1) k
  have K1 : ∀ t, Steps p.tables e below (s₁.setTop (mkF m 1 #[.val (.int p1), .unset] [(.int p1)])) t → Steps p.tables e below G t := by
    intro t k
    refine pre0 t ?_
    show Steps p.tables e below (s₁.setTop (mkF m 0 #[.val (.int p1), .unset] [])) _
    refine XS.iloadN X0.here hx rfl (hb hby d6_0) rfl ?_
    show Steps p.tables e below (s₁.setTop (mkF m 1 #[.val (.int p1), .unset] [(.int p1)])) _
    exact k
  by_cases hc2 : (0 : Int32) < p1
  · have K3 : ∀ t, Steps p.tables e below (s₁.setTop (mkF m 22 #[.val (.int p1), .val (.int (31 : Int32))] [(.int (65536 : Int32)), (.int p1)])) t → Steps p.tables e below G t := by
      intro t k
      refine K1 t ?_
      show Steps p.tables e below (s₁.setTop (mkF m 1 #[.val (.int p1), .unset] [(.int p1)])) _
      refine XS.ifYes X0.here hx rfl (pc0 := 1) (pc' := 15) rfl (hb hby d6_1) rfl ((if0 _ _).trans (tlt hc2).2.2.1) (by decide) (by decide) ?_
      show Steps p.tables e below (s₁.setTop (mkF m 15 #[.val (.int p1), .unset] [])) _
      refine XS.bipush X0.here hx rfl (hb hby d6_15) ?_
      show Steps p.tables e below (s₁.setTop (mkF m 17 #[.val (.int p1), .unset] [(.int (31 : Int32))])) _
      refine XS.istoreN X0.here hx rfl (hb hby d6_17) rfl (l' := #[.val (.int p1), .val (.int (31 : Int32))]) rfl ?_
      show Steps p.tables e below (s₁.setTop (mkF m 18 #[.val (.int p1), .val (.int (31 : Int32))] [])) _
      refine XS.iloadN X0.here hx rfl (hb hby d6_18) rfl ?_
      show Steps p.tables e below (s₁.setTop (mkF m 19 #[.val (.int p1), .val (.int (31 : Int32))] [(.int p1)])) _
      refine X0.ldcwInt hx hown (mvT hZ (hw _ (List.mem_of_getElem? (i := 68) rfl))) (g := (mkF m 19 #[.val (.int p1), .val (.int (31 : Int32))] [(.int p1)])) rfl (hb hby d6_19) _ ?_
      show Steps p.tables e below (s₁.setTop (mkF m 22 #[.val (.int p1), .val (.int (31 : Int32))] [(.int (65536 : Int32)), (.int p1)])) _
      exact k
    have K5 : ∀ t, Steps p.tables e below (s₁.setTop (mkF m 33 #[.val (.int (if p1 < (65536 : Int32) then p1 else ((p1.toUInt32 >>> ((16 : Int32) &&& 31).toUInt32).toInt32))), .val (.int (if p1 < (65536 : Int32) then (31 : Int32) else (15 : Int32)))] [])) t → Steps p.tables e below G t := by
      intro t k
      refine K3 t ?_
      by_cases hc4 : p1 < (65536 : Int32)
      · show Steps p.tables e below (s₁.setTop (mkF m 22 #[.val (.int p1), .val (.int (31 : Int32))] [(.int (65536 : Int32)), (.int p1)])) _
        refine XS.icmpYes X0.here hx rfl (pc0 := 22) (pc' := 33) rfl (hb hby d6_22) rfl (tlt hc4).1 (by decide) (by decide) ?_
        show Steps p.tables e below (s₁.setTop (mkF m 33 #[.val (.int p1), .val (.int (31 : Int32))] [])) _
        simp only [if_pos hc4] at k
        exact k
      · show Steps p.tables e below (s₁.setTop (mkF m 22 #[.val (.int p1), .val (.int (31 : Int32))] [(.int (65536 : Int32)), (.int p1)])) _
        refine XS.icmpNo X0.here hx rfl (hb hby d6_22) rfl (flt hc4).1 ?_
        show Steps p.tables e below (s₁.setTop (mkF m 25 #[.val (.int p1), .val (.int (31 : Int32))] [])) _
        refine XS.iinc X0.here hx rfl (hb hby d6_25) rfl (l' := #[.val (.int p1), .val (.int (15 : Int32))]) rfl ?_
        show Steps p.tables e below (s₁.setTop (mkF m 28 #[.val (.int p1), .val (.int (15 : Int32))] [])) _
        refine XS.iloadN X0.here hx rfl (hb hby d6_28) rfl ?_
        show Steps p.tables e below (s₁.setTop (mkF m 29 #[.val (.int p1), .val (.int (15 : Int32))] [(.int p1)])) _
        refine XS.bipush X0.here hx rfl (hb hby d6_29) ?_
        show Steps p.tables e below (s₁.setTop (mkF m 31 #[.val (.int p1), .val (.int (15 : Int32))] [(.int (16 : Int32)), (.int p1)])) _
        refine XS.iushr X0.here hx rfl (hb hby d6_31) rfl ?_
        show Steps p.tables e below (s₁.setTop (mkF m 32 #[.val (.int p1), .val (.int (15 : Int32))] [(.int ((p1.toUInt32 >>> ((16 : Int32) &&& 31).toUInt32).toInt32))])) _
        refine XS.istoreN X0.here hx rfl (hb hby d6_32) rfl (l' := #[.val (.int ((p1.toUInt32 >>> ((16 : Int32) &&& 31).toUInt32).toInt32)), .val (.int (15 : Int32))]) rfl ?_
        show Steps p.tables e below (s₁.setTop (mkF m 33 #[.val (.int ((p1.toUInt32 >>> ((16 : Int32) &&& 31).toUInt32).toInt32)), .val (.int (15 : Int32))] [])) _
        simp only [if_neg hc4] at k
        exact k
    obtain ⟨i1, h_i1⟩ : ∃ z : Int32, z = (if p1 < (65536 : Int32) then p1 else ((p1.toUInt32 >>> ((16 : Int32) &&& 31).toUInt32).toInt32)) := ⟨_, rfl⟩
    have K6 : ∀ t, Steps p.tables e below (s₁.setTop (mkF m 33 #[.val (.int i1), .val (.int (if p1 < (65536 : Int32) then (31 : Int32) else (15 : Int32)))] [])) t → Steps p.tables e below G t := by rw [h_i1]; exact K5
    obtain ⟨n1, h_n1⟩ : ∃ z : Int32, z = (if p1 < (65536 : Int32) then (31 : Int32) else (15 : Int32)) := ⟨_, rfl⟩
    have K7 : ∀ t, Steps p.tables e below (s₁.setTop (mkF m 33 #[.val (.int i1), .val (.int n1)] [])) t → Steps p.tables e below G t := by rw [h_n1]; exact K6
    have K8 : ∀ t, Steps p.tables e below (s₁.setTop (mkF m 37 #[.val (.int i1), .val (.int n1)] [(.int (256 : Int32)), (.int i1)])) t → Steps p.tables e below G t := by
      intro t k
      refine K7 t ?_
      show Steps p.tables e below (s₁.setTop (mkF m 33 #[.val (.int i1), .val (.int n1)] [])) _
      refine XS.iloadN X0.here hx rfl (hb hby d6_33) rfl ?_
      show Steps p.tables e below (s₁.setTop (mkF m 34 #[.val (.int i1), .val (.int n1)] [(.int i1)])) _
      refine XS.sipush X0.here hx rfl (hb hby d6_34) ?_
      show Steps p.tables e below (s₁.setTop (mkF m 37 #[.val (.int i1), .val (.int n1)] [(.int (256 : Int32)), (.int i1)])) _
      exact k
    have K10 : ∀ t, Steps p.tables e below (s₁.setTop (mkF m 48 #[.val (.int (if i1 < (256 : Int32) then i1 else ((i1.toUInt32 >>> ((8 : Int32) &&& 31).toUInt32).toInt32))), .val (.int (if i1 < (256 : Int32) then n1 else (n1 + (-8 : Int32))))] [])) t → Steps p.tables e below G t := by
      intro t k
      refine K8 t ?_
      by_cases hc9 : i1 < (256 : Int32)
      · show Steps p.tables e below (s₁.setTop (mkF m 37 #[.val (.int i1), .val (.int n1)] [(.int (256 : Int32)), (.int i1)])) _
        refine XS.icmpYes X0.here hx rfl (pc0 := 37) (pc' := 48) rfl (hb hby d6_37) rfl (tlt hc9).1 (by decide) (by decide) ?_
        show Steps p.tables e below (s₁.setTop (mkF m 48 #[.val (.int i1), .val (.int n1)] [])) _
        simp only [if_pos hc9] at k
        exact k
      · show Steps p.tables e below (s₁.setTop (mkF m 37 #[.val (.int i1), .val (.int n1)] [(.int (256 : Int32)), (.int i1)])) _
        refine XS.icmpNo X0.here hx rfl (hb hby d6_37) rfl (flt hc9).1 ?_
        show Steps p.tables e below (s₁.setTop (mkF m 40 #[.val (.int i1), .val (.int n1)] [])) _
        refine XS.iinc X0.here hx rfl (hb hby d6_40) rfl (l' := #[.val (.int i1), .val (.int (n1 + (-8 : Int32)))]) rfl ?_
        show Steps p.tables e below (s₁.setTop (mkF m 43 #[.val (.int i1), .val (.int (n1 + (-8 : Int32)))] [])) _
        refine XS.iloadN X0.here hx rfl (hb hby d6_43) rfl ?_
        show Steps p.tables e below (s₁.setTop (mkF m 44 #[.val (.int i1), .val (.int (n1 + (-8 : Int32)))] [(.int i1)])) _
        refine XS.bipush X0.here hx rfl (hb hby d6_44) ?_
        show Steps p.tables e below (s₁.setTop (mkF m 46 #[.val (.int i1), .val (.int (n1 + (-8 : Int32)))] [(.int (8 : Int32)), (.int i1)])) _
        refine XS.iushr X0.here hx rfl (hb hby d6_46) rfl ?_
        show Steps p.tables e below (s₁.setTop (mkF m 47 #[.val (.int i1), .val (.int (n1 + (-8 : Int32)))] [(.int ((i1.toUInt32 >>> ((8 : Int32) &&& 31).toUInt32).toInt32))])) _
        refine XS.istoreN X0.here hx rfl (hb hby d6_47) rfl (l' := #[.val (.int ((i1.toUInt32 >>> ((8 : Int32) &&& 31).toUInt32).toInt32)), .val (.int (n1 + (-8 : Int32)))]) rfl ?_
        show Steps p.tables e below (s₁.setTop (mkF m 48 #[.val (.int ((i1.toUInt32 >>> ((8 : Int32) &&& 31).toUInt32).toInt32)), .val (.int (n1 + (-8 : Int32)))] [])) _
        simp only [if_neg hc9] at k
        exact k
    obtain ⟨i2, h_i2⟩ : ∃ z : Int32, z = (if i1 < (256 : Int32) then i1 else ((i1.toUInt32 >>> ((8 : Int32) &&& 31).toUInt32).toInt32)) := ⟨_, rfl⟩
    have K11 : ∀ t, Steps p.tables e below (s₁.setTop (mkF m 48 #[.val (.int i2), .val (.int (if i1 < (256 : Int32) then n1 else (n1 + (-8 : Int32))))] [])) t → Steps p.tables e below G t := by rw [h_i2]; exact K10
    obtain ⟨n2, h_n2⟩ : ∃ z : Int32, z = (if i1 < (256 : Int32) then n1 else (n1 + (-8 : Int32))) := ⟨_, rfl⟩
    have K12 : ∀ t, Steps p.tables e below (s₁.setTop (mkF m 48 #[.val (.int i2), .val (.int n2)] [])) t → Steps p.tables e below G t := by rw [h_n2]; exact K11
    have K13 : ∀ t, Steps p.tables e below (s₁.setTop (mkF m 51 #[.val (.int i2), .val (.int n2)] [(.int (16 : Int32)), (.int i2)])) t → Steps p.tables e below G t := by
      intro t k
      refine K12 t ?_
      show Steps p.tables e below (s₁.setTop (mkF m 48 #[.val (.int i2), .val (.int n2)] [])) _
      refine XS.iloadN X0.here hx rfl (hb hby d6_48) rfl ?_
      show Steps p.tables e below (s₁.setTop (mkF m 49 #[.val (.int i2), .val (.int n2)] [(.int i2)])) _
      refine XS.bipush X0.here hx rfl (hb hby d6_49) ?_
      show Steps p.tables e below (s₁.setTop (mkF m 51 #[.val (.int i2), .val (.int n2)] [(.int (16 : Int32)), (.int i2)])) _
      exact k
    have K15 : ∀ t, Steps p.tables e below (s₁.setTop (mkF m 61 #[.val (.int (if i2 < (16 : Int32) then i2 else ((i2.toUInt32 >>> ((4 : Int32) &&& 31).toUInt32).toInt32))), .val (.int (if i2 < (16 : Int32) then n2 else (n2 + (-4 : Int32))))] [])) t → Steps p.tables e below G t := by
      intro t k
      refine K13 t ?_
      by_cases hc14 : i2 < (16 : Int32)
      · show Steps p.tables e below (s₁.setTop (mkF m 51 #[.val (.int i2), .val (.int n2)] [(.int (16 : Int32)), (.int i2)])) _
        refine XS.icmpYes X0.here hx rfl (pc0 := 51) (pc' := 61) rfl (hb hby d6_51) rfl (tlt hc14).1 (by decide) (by decide) ?_
        show Steps p.tables e below (s₁.setTop (mkF m 61 #[.val (.int i2), .val (.int n2)] [])) _
        simp only [if_pos hc14] at k
        exact k
      · show Steps p.tables e below (s₁.setTop (mkF m 51 #[.val (.int i2), .val (.int n2)] [(.int (16 : Int32)), (.int i2)])) _
        refine XS.icmpNo X0.here hx rfl (hb hby d6_51) rfl (flt hc14).1 ?_
        show Steps p.tables e below (s₁.setTop (mkF m 54 #[.val (.int i2), .val (.int n2)] [])) _
        refine XS.iinc X0.here hx rfl (hb hby d6_54) rfl (l' := #[.val (.int i2), .val (.int (n2 + (-4 : Int32)))]) rfl ?_
        show Steps p.tables e below (s₁.setTop (mkF m 57 #[.val (.int i2), .val (.int (n2 + (-4 : Int32)))] [])) _
        refine XS.iloadN X0.here hx rfl (hb hby d6_57) rfl ?_
        show Steps p.tables e below (s₁.setTop (mkF m 58 #[.val (.int i2), .val (.int (n2 + (-4 : Int32)))] [(.int i2)])) _
        refine XS.iconst X0.here hx rfl (hb hby d6_58) ?_
        show Steps p.tables e below (s₁.setTop (mkF m 59 #[.val (.int i2), .val (.int (n2 + (-4 : Int32)))] [(.int (4 : Int32)), (.int i2)])) _
        refine XS.iushr X0.here hx rfl (hb hby d6_59) rfl ?_
        show Steps p.tables e below (s₁.setTop (mkF m 60 #[.val (.int i2), .val (.int (n2 + (-4 : Int32)))] [(.int ((i2.toUInt32 >>> ((4 : Int32) &&& 31).toUInt32).toInt32))])) _
        refine XS.istoreN X0.here hx rfl (hb hby d6_60) rfl (l' := #[.val (.int ((i2.toUInt32 >>> ((4 : Int32) &&& 31).toUInt32).toInt32)), .val (.int (n2 + (-4 : Int32)))]) rfl ?_
        show Steps p.tables e below (s₁.setTop (mkF m 61 #[.val (.int ((i2.toUInt32 >>> ((4 : Int32) &&& 31).toUInt32).toInt32)), .val (.int (n2 + (-4 : Int32)))] [])) _
        simp only [if_neg hc14] at k
        exact k
    obtain ⟨i3, h_i3⟩ : ∃ z : Int32, z = (if i2 < (16 : Int32) then i2 else ((i2.toUInt32 >>> ((4 : Int32) &&& 31).toUInt32).toInt32)) := ⟨_, rfl⟩
    have K16 : ∀ t, Steps p.tables e below (s₁.setTop (mkF m 61 #[.val (.int i3), .val (.int (if i2 < (16 : Int32) then n2 else (n2 + (-4 : Int32))))] [])) t → Steps p.tables e below G t := by rw [h_i3]; exact K15
    obtain ⟨n3, h_n3⟩ : ∃ z : Int32, z = (if i2 < (16 : Int32) then n2 else (n2 + (-4 : Int32))) := ⟨_, rfl⟩
    have K17 : ∀ t, Steps p.tables e below (s₁.setTop (mkF m 61 #[.val (.int i3), .val (.int n3)] [])) t → Steps p.tables e below G t := by rw [h_n3]; exact K16
    have K18 : ∀ t, Steps p.tables e below (s₁.setTop (mkF m 63 #[.val (.int i3), .val (.int n3)] [(.int (4 : Int32)), (.int i3)])) t → Steps p.tables e below G t := by
      intro t k
      refine K17 t ?_
      show Steps p.tables e below (s₁.setTop (mkF m 61 #[.val (.int i3), .val (.int n3)] [])) _
      refine XS.iloadN X0.here hx rfl (hb hby d6_61) rfl ?_
      show Steps p.tables e below (s₁.setTop (mkF m 62 #[.val (.int i3), .val (.int n3)] [(.int i3)])) _
      refine XS.iconst X0.here hx rfl (hb hby d6_62) ?_
      show Steps p.tables e below (s₁.setTop (mkF m 63 #[.val (.int i3), .val (.int n3)] [(.int (4 : Int32)), (.int i3)])) _
      exact k
    have K20 : ∀ t, Steps p.tables e below (s₁.setTop (mkF m 73 #[.val (.int (if i3 < (4 : Int32) then i3 else ((i3.toUInt32 >>> ((2 : Int32) &&& 31).toUInt32).toInt32))), .val (.int (if i3 < (4 : Int32) then n3 else (n3 + (-2 : Int32))))] [])) t → Steps p.tables e below G t := by
      intro t k
      refine K18 t ?_
      by_cases hc19 : i3 < (4 : Int32)
      · show Steps p.tables e below (s₁.setTop (mkF m 63 #[.val (.int i3), .val (.int n3)] [(.int (4 : Int32)), (.int i3)])) _
        refine XS.icmpYes X0.here hx rfl (pc0 := 63) (pc' := 73) rfl (hb hby d6_63) rfl (tlt hc19).1 (by decide) (by decide) ?_
        show Steps p.tables e below (s₁.setTop (mkF m 73 #[.val (.int i3), .val (.int n3)] [])) _
        simp only [if_pos hc19] at k
        exact k
      · show Steps p.tables e below (s₁.setTop (mkF m 63 #[.val (.int i3), .val (.int n3)] [(.int (4 : Int32)), (.int i3)])) _
        refine XS.icmpNo X0.here hx rfl (hb hby d6_63) rfl (flt hc19).1 ?_
        show Steps p.tables e below (s₁.setTop (mkF m 66 #[.val (.int i3), .val (.int n3)] [])) _
        refine XS.iinc X0.here hx rfl (hb hby d6_66) rfl (l' := #[.val (.int i3), .val (.int (n3 + (-2 : Int32)))]) rfl ?_
        show Steps p.tables e below (s₁.setTop (mkF m 69 #[.val (.int i3), .val (.int (n3 + (-2 : Int32)))] [])) _
        refine XS.iloadN X0.here hx rfl (hb hby d6_69) rfl ?_
        show Steps p.tables e below (s₁.setTop (mkF m 70 #[.val (.int i3), .val (.int (n3 + (-2 : Int32)))] [(.int i3)])) _
        refine XS.iconst X0.here hx rfl (hb hby d6_70) ?_
        show Steps p.tables e below (s₁.setTop (mkF m 71 #[.val (.int i3), .val (.int (n3 + (-2 : Int32)))] [(.int (2 : Int32)), (.int i3)])) _
        refine XS.iushr X0.here hx rfl (hb hby d6_71) rfl ?_
        show Steps p.tables e below (s₁.setTop (mkF m 72 #[.val (.int i3), .val (.int (n3 + (-2 : Int32)))] [(.int ((i3.toUInt32 >>> ((2 : Int32) &&& 31).toUInt32).toInt32))])) _
        refine XS.istoreN X0.here hx rfl (hb hby d6_72) rfl (l' := #[.val (.int ((i3.toUInt32 >>> ((2 : Int32) &&& 31).toUInt32).toInt32)), .val (.int (n3 + (-2 : Int32)))]) rfl ?_
        show Steps p.tables e below (s₁.setTop (mkF m 73 #[.val (.int ((i3.toUInt32 >>> ((2 : Int32) &&& 31).toUInt32).toInt32)), .val (.int (n3 + (-2 : Int32)))] [])) _
        simp only [if_neg hc19] at k
        exact k
    obtain ⟨i4, h_i4⟩ : ∃ z : Int32, z = (if i3 < (4 : Int32) then i3 else ((i3.toUInt32 >>> ((2 : Int32) &&& 31).toUInt32).toInt32)) := ⟨_, rfl⟩
    have K21 : ∀ t, Steps p.tables e below (s₁.setTop (mkF m 73 #[.val (.int i4), .val (.int (if i3 < (4 : Int32) then n3 else (n3 + (-2 : Int32))))] [])) t → Steps p.tables e below G t := by rw [h_i4]; exact K20
    obtain ⟨n4, h_n4⟩ : ∃ z : Int32, z = (if i3 < (4 : Int32) then n3 else (n3 + (-2 : Int32))) := ⟨_, rfl⟩
    have K22 : ∀ t, Steps p.tables e below (s₁.setTop (mkF m 73 #[.val (.int i4), .val (.int n4)] [])) t → Steps p.tables e below G t := by rw [h_n4]; exact K21
    obtain ⟨fs, hr, hrun, hended, hW, hsame⟩ := X0.leave (v := some (.int (n4 - ((i4.toUInt32 >>> ((1 : Int32) &&& 31).toUInt32).toInt32)))) (fun h => by rw [Bd.returns] at h; cases h)
    have KF := K22
    rw [hG] at KF
    refine ⟨_, _, KF _ ?_, hrun, hended, _, _, rfl, ?_, ⟨_, rfl⟩, hW, hsame.mono (by decide) (by decide)⟩
    · show Steps p.tables e below (s₁.setTop (mkF m 73 #[.val (.int i4), .val (.int n4)] [])) _
      refine XS.iloadN X0.here hx rfl (hb hby d6_73) rfl ?_
      show Steps p.tables e below (s₁.setTop (mkF m 74 #[.val (.int i4), .val (.int n4)] [(.int n4)])) _
      refine XS.iloadN X0.here hx rfl (hb hby d6_74) rfl ?_
      show Steps p.tables e below (s₁.setTop (mkF m 75 #[.val (.int i4), .val (.int n4)] [(.int i4), (.int n4)])) _
      refine XS.iconst X0.here hx rfl (hb hby d6_75) ?_
      show Steps p.tables e below (s₁.setTop (mkF m 76 #[.val (.int i4), .val (.int n4)] [(.int (1 : Int32)), (.int i4), (.int n4)])) _
      refine XS.iushr X0.here hx rfl (hb hby d6_76) rfl ?_
      show Steps p.tables e below (s₁.setTop (mkF m 77 #[.val (.int i4), .val (.int n4)] [(.int ((i4.toUInt32 >>> ((1 : Int32) &&& 31).toUInt32).toInt32)), (.int n4)])) _
      refine XS.isub X0.here hx rfl (hb hby d6_77) rfl ?_
      show Steps p.tables e below (s₁.setTop (mkF m 78 #[.val (.int i4), .val (.int n4)] [(.int (n4 - ((i4.toUInt32 >>> ((1 : Int32) &&& 31).toUInt32).toInt32)))])) _
      exact own_retI X0 hx Bd.returns (hb hby d6_78) hr
    · show Q6 p1 h0 n0 _ s₁.heap _
      rw [e0]
      exact ⟨_, rfl, N0, rfl, own_nl32 hc2 h_i1 h_n1 h_i2 h_n2 h_i3 h_n3 h_i4 h_n4⟩
  · have K23 : ∀ t, Steps p.tables e below (s₁.setTop (mkF m 5 #[.val (.int p1), .unset] [(.int p1)])) t → Steps p.tables e below G t := by
      intro t k
      refine K1 t ?_
      show Steps p.tables e below (s₁.setTop (mkF m 1 #[.val (.int p1), .unset] [(.int p1)])) _
      refine XS.ifNo X0.here hx rfl (hb hby d6_1) rfl ((if0 _ _).trans (flt hc2).2.2.1) ?_
      show Steps p.tables e below (s₁.setTop (mkF m 4 #[.val (.int p1), .unset] [])) _
      refine XS.iloadN X0.here hx rfl (hb hby d6_4) rfl ?_
      show Steps p.tables e below (s₁.setTop (mkF m 5 #[.val (.int p1), .unset] [(.int p1)])) _
      exact k
    by_cases hc24 : p1 = (0 : Int32)
    · obtain ⟨fs, hr, hrun, hended, hW, hsame⟩ := X0.leave (v := some (.int (32 : Int32))) (fun h => by rw [Bd.returns] at h; cases h)
      have KF := K23
      rw [hG] at KF
      refine ⟨_, _, KF _ ?_, hrun, hended, _, _, rfl, ?_, ⟨_, rfl⟩, hW, hsame.mono (by decide) (by decide)⟩
      · show Steps p.tables e below (s₁.setTop (mkF m 5 #[.val (.int p1), .unset] [(.int p1)])) _
        refine XS.ifNo X0.here hx rfl (hb hby d6_5) rfl ((if0 _ _).trans (teq hc24).2) ?_
        show Steps p.tables e below (s₁.setTop (mkF m 8 #[.val (.int p1), .unset] [])) _
        refine XS.bipush X0.here hx rfl (hb hby d6_8) ?_
        show Steps p.tables e below (s₁.setTop (mkF m 10 #[.val (.int p1), .unset] [(.int (32 : Int32))])) _
        refine XS.goto X0.here hx rfl (pc0 := 10) (pc' := 14) rfl (hb hby d6_10) (by decide) (by decide) ?_
        show Steps p.tables e below (s₁.setTop (mkF m 14 #[.val (.int p1), .unset] [(.int (32 : Int32))])) _
        exact own_retI X0 hx Bd.returns (hb hby d6_14) hr
      · show Q6 p1 h0 n0 _ s₁.heap _
        rw [e0]
        exact ⟨_, rfl, N0, rfl, by rw [hc24]; exact Or.inl ⟨rfl, rfl⟩⟩
    · obtain ⟨fs, hr, hrun, hended, hW, hsame⟩ := X0.leave (v := some (.int (0 : Int32))) (fun h => by rw [Bd.returns] at h; cases h)
      have KF := K23
      rw [hG] at KF
      refine ⟨_, _, KF _ ?_, hrun, hended, _, _, rfl, ?_, ⟨_, rfl⟩, hW, hsame.mono (by decide) (by decide)⟩
      · show Steps p.tables e below (s₁.setTop (mkF m 5 #[.val (.int p1), .unset] [(.int p1)])) _
        refine XS.ifYes X0.here hx rfl (pc0 := 5) (pc' := 13) rfl (hb hby d6_5) rfl ((if0 _ _).trans (feq hc24).2) (by decide) (by decide) ?_
        show Steps p.tables e below (s₁.setTop (mkF m 13 #[.val (.int p1), .unset] [])) _
        refine XS.iconst X0.here hx rfl (hb hby d6_13) ?_
        show Steps p.tables e below (s₁.setTop (mkF m 14 #[.val (.int p1), .unset] [(.int (0 : Int32))])) _
        exact own_retI X0 hx Bd.returns (hb hby d6_14) hr
      · show Q6 p1 h0 n0 _ s₁.heap _
        rw [e0]
        exact ⟨_, rfl, N0, rfl, own_nl_np hc2 hc24⟩
def Q5 (q1 : Int64) (h0 : Heap) (n0 : Nat) (v : Option Value) (h : Heap) (L : List Loc) : Prop := ∃ r : Int32, v = some (.int r) ∧ Fr n0 L ∧ h = h0 ∧ own_nl6 r q1.toBitVec.toNat
theorem own_hi32 (q : Int64) : (((q.toUInt64 >>> ((32 : Int32) &&& 0x3f).toInt64.toUInt64).toInt64).toInt32).toBitVec.toNat = q.toBitVec.toNat / 4294967296 := by
  have e := own_ushr q 32 32 rfl (by decide)
  show (((q.toUInt64 >>> ((32 : Int32) &&& 0x3f).toInt64.toUInt64).toInt64).toBitVec.signExtend 32).toNat = _
  rw [e]
  have hl := q.toBitVec.isLt
  rw [BitVec.signExtend_eq_setWidth_of_le _ (by decide), BitVec.toNat_setWidth, BitVec.toNat_ushiftRight, Nat.shiftRight_eq_div_pow]
  show q.toBitVec.toNat / 4294967296 % 4294967296 = _; omega
theorem own_lo32 (q : Int64) : q.toInt32.toBitVec.toNat = q.toBitVec.toNat % 4294967296 := by
  show (q.toBitVec.signExtend 32).toNat = _
  rw [BitVec.signExtend_eq_setWidth_of_le _ (by decide), BitVec.toNat_setWidth]
theorem own_nl_lo {q : Int64} {r : Int32} (h : own_nl r q.toInt32.toBitVec.toNat) (hx : ((q.toUInt64 >>> ((32 : Int32) &&& 0x3f).toInt64.toUInt64).toInt64).toInt32 = 0) : own_nl6 ((32 : Int32) + r) q.toBitVec.toNat := by
  have e := own_hi32 q; rw [hx] at e
  have e0 : (0 : Int32).toBitVec.toNat = 0 := rfl
  rw [own_lo32] at h
  have z : (32 : Int32).toInt = 32 := rfl
  have a := c_iadd 32 r; have ra := rng32 ((32 : Int32) + r)
  have hq : q.toBitVec.toNat % 4294967296 = q.toBitVec.toNat := by omega
  rw [hq] at h
  rcases h with ⟨u, v⟩ | ⟨c, c1, c2, c3, c4⟩
  · exact Or.inl ⟨u, by omega⟩
  · exact Or.inr ⟨c, by omega, by omega, c3, c4⟩
theorem own_nl_hi {q : Int64} {r : Int32} (h : own_nl r (((q.toUInt64 >>> ((32 : Int32) &&& 0x3f).toInt64.toUInt64).toInt64).toInt32).toBitVec.toNat) (hx : ¬ ((q.toUInt64 >>> ((32 : Int32) &&& 0x3f).toInt64.toUInt64).toInt64).toInt32 = 0) : own_nl6 r q.toBitVec.toNat := by
  have e := own_hi32 q
  have hne : (((q.toUInt64 >>> ((32 : Int32) &&& 0x3f).toInt64.toUInt64).toInt64).toInt32).toBitVec.toNat ≠ 0 := fun z => hx (Int32.toBitVec_inj.mp (BitVec.eq_of_toNat_eq z))
  rw [e] at h hne
  rcases h with ⟨u, v⟩ | ⟨c, c1, c2, c3, c4⟩
  · exact absurd u hne
  · refine Or.inr ⟨c + 32, by omega, by omega, ?_, ?_⟩
    · rw [Nat.pow_add]; show 2 ^ c * 4294967296 ≤ _; exact (Nat.le_div_iff_mul_le (by decide)).mp c3
    · rw [show c + 32 + 1 = (c + 1) + 32 by omega, Nat.pow_add]; show _ < 2 ^ (c + 1) * 4294967296; exact (Nat.div_lt_iff_lt_mul (by decide)).mp c4
theorem d5_0 : decode jdk_35_method_48_code 0 = .ok (.lload_n 0, 1) := by decide +kernel
theorem d5_1 : decode jdk_35_method_48_code 1 = .ok (.bipush 32, 2) := by decide +kernel
theorem d5_3 : decode jdk_35_method_48_code 3 = .ok (.lushr, 1) := by decide +kernel
theorem d5_4 : decode jdk_35_method_48_code 4 = .ok (.l2i, 1) := by decide +kernel
theorem d5_5 : decode jdk_35_method_48_code 5 = .ok (.istore_n 2, 1) := by decide +kernel
theorem d5_6 : decode jdk_35_method_48_code 6 = .ok (.iload_n 2, 1) := by decide +kernel
theorem d5_7 : decode jdk_35_method_48_code 7 = .ok (.ifCond .ne 14, 3) := by decide +kernel
theorem d5_10 : decode jdk_35_method_48_code 10 = .ok (.bipush 32, 2) := by decide +kernel
theorem d5_12 : decode jdk_35_method_48_code 12 = .ok (.lload_n 0, 1) := by decide +kernel
theorem d5_13 : decode jdk_35_method_48_code 13 = .ok (.l2i, 1) := by decide +kernel
theorem d5_14 : decode jdk_35_method_48_code 14 = .ok (.invokestatic 308, 3) := by decide +kernel
theorem d5_17 : decode jdk_35_method_48_code 17 = .ok (.iadd, 1) := by decide +kernel
theorem d5_18 : decode jdk_35_method_48_code 18 = .ok (.goto 7, 3) := by decide +kernel
theorem d5_21 : decode jdk_35_method_48_code 21 = .ok (.iload_n 2, 1) := by decide +kernel
theorem d5_22 : decode jdk_35_method_48_code 22 = .ok (.invokestatic 308, 3) := by decide +kernel
theorem d5_25 : decode jdk_35_method_48_code 25 = .ok (.ireturn, 1) := by decide +kernel
theorem pn_java_lang_Long : plainName "java/lang/Long" = true := by first | (simp [plainName, overriddenIn]; done) | decide +kernel
theorem pd_0 : parseMethodDescriptor "(I)I" = some ⟨[.int], some .int⟩ := by decide +kernel
theorem ef_rm5 (m : MethodId) (x0 : Int64) : entryFrame m #[(.long x0)] 3 = mkF m 0 #[.val (.long x0), .second, .unset] [] := by first | (simp [entryFrame, mkF, argsToLocals, Value.category]; done) | rfl
set_option maxRecDepth 65536 in
set_option maxHeartbeats 40000000 in
theorem rm5 (l : Launch) (Z : State) (a0 : Array Value) (hw : ∀ d ∈ tables_1, d.before a0 Z = true) (ws : List Jvm.Cond) (q1 : Int64) (h0 : Heap) (n0 : Nat) (Z0 : n0 ≤ h0.size) :
    MetFree l (⟨"java/lang/Long", "numberOfLeadingZeros", "(J)I"⟩ : MethodName) (head1 (Jvm.Cond.code (⟨"java/lang/Long", "numberOfLeadingZeros", "(J)I"⟩ : MethodName) jdk_35_method_48_code 3 (some .int) :: ws) ({ frames := 1, cells := 0, slots := 0, locals := 14 } : Room)) (fun a U => a = #[(.long q1)] ∧ Z.Warmed39 U.vm ∧ U.heap = h0) (fun _ _ _ _ _ => True) (fun _ U o U' => ∃ v L, o = .returned v ∧ Q5 q1 h0 n0 v U'.heap L ∧ FrameEnd U o U' L ({ frames := 1, cells := 0, slots := 0, locals := 14 } : Room).cells ({ frames := 1, cells := 0, slots := 0, locals := 14 } : Room).slots) := by
  refine MetFree.of_bodySF (plainFor_of_name pn_java_lang_Long) hisR ?_
  intro p e s m args below meth c s₁ Bd hml0 hP hK
  obtain ⟨rfl, hZ, hh⟩ := hP
  have hx := Bd.exec
  have hby := Bd.bytes
  have hml : c.maxLocals = 3 := hml0
  have hown : s.vm.findClass "java/lang/Long" = some m.cls := findClass_of_methodNamed Bd.named
  have hnm := (name_of_methodNamed Bd.named Bd.method).1
  have X0 : Stand p l e ({ frames := 1, cells := 0, slots := 0, locals := 14 } : Room) s m #[(.long q1)] below meth c s₁ [] 0 0 := Stand.of_body Bd
  have e0 : s₁.heap = h0 := by rw [← hh, Bd.state]; rfl
  have N0 := Fr.nil n0
  have KP0 : Keep h0 h0 [] := Keep.refl h0 _
  obtain ⟨G, hG⟩ : ∃ G : State, G = s₁.setTop (entryFrame m #[(.long q1)] 3) := ⟨_, rfl⟩
  have pre0 : ∀ t, Steps p.tables e below (s₁.setTop (mkF m 0 #[.val (.long q1), .second, .unset] [])) t → Steps p.tables e below G t := fun t k => hG ▸ castTop (ef_rm5 m q1) k
  have K1 : ∀ t, Steps p.tables e below (s₁.setTop (mkF m 7 #[.val (.long q1), .second, .val (.int (((q1.toUInt64 >>> ((32 : Int32) &&& 0x3f).toInt64.toUInt64).toInt64).toInt32))] [(.int (((q1.toUInt64 >>> ((32 : Int32) &&& 0x3f).toInt64.toUInt64).toInt64).toInt32))])) t → Steps p.tables e below G t := by
    intro t k
    refine pre0 t ?_
    show Steps p.tables e below (s₁.setTop (mkF m 0 #[.val (.long q1), .second, .unset] [])) _
    refine XS.lloadN X0.here hx rfl (hb hby d5_0) rfl ?_
    show Steps p.tables e below (s₁.setTop (mkF m 1 #[.val (.long q1), .second, .unset] [(.long q1)])) _
    refine XS.bipush X0.here hx rfl (hb hby d5_1) ?_
    show Steps p.tables e below (s₁.setTop (mkF m 3 #[.val (.long q1), .second, .unset] [(.int (32 : Int32)), (.long q1)])) _
    refine XS.lushr X0.here hx rfl (hb hby d5_3) rfl ?_
    show Steps p.tables e below (s₁.setTop (mkF m 4 #[.val (.long q1), .second, .unset] [(.long ((q1.toUInt64 >>> ((32 : Int32) &&& 0x3f).toInt64.toUInt64).toInt64))])) _
    refine XS.l2i X0.here hx rfl (hb hby d5_4) rfl ?_
    show Steps p.tables e below (s₁.setTop (mkF m 5 #[.val (.long q1), .second, .unset] [(.int (((q1.toUInt64 >>> ((32 : Int32) &&& 0x3f).toInt64.toUInt64).toInt64).toInt32))])) _
    refine XS.istoreN X0.here hx rfl (hb hby d5_5) rfl (l' := #[.val (.long q1), .second, .val (.int (((q1.toUInt64 >>> ((32 : Int32) &&& 0x3f).toInt64.toUInt64).toInt64).toInt32))]) rfl ?_
    show Steps p.tables e below (s₁.setTop (mkF m 6 #[.val (.long q1), .second, .val (.int (((q1.toUInt64 >>> ((32 : Int32) &&& 0x3f).toInt64.toUInt64).toInt64).toInt32))] [])) _
    refine XS.iloadN X0.here hx rfl (hb hby d5_6) rfl ?_
    show Steps p.tables e below (s₁.setTop (mkF m 7 #[.val (.long q1), .second, .val (.int (((q1.toUInt64 >>> ((32 : Int32) &&& 0x3f).toInt64.toUInt64).toInt64).toInt32))] [(.int (((q1.toUInt64 >>> ((32 : Int32) &&& 0x3f).toInt64.toUInt64).toInt64).toInt32))])) _
    exact k
  by_cases hc2 : (((q1.toUInt64 >>> ((32 : Int32) &&& 0x3f).toInt64.toUInt64).toInt64).toInt32) = (0 : Int32)
  · have K3 : ∀ t, Steps p.tables e below (s₁.setTop (mkF m 14 #[.val (.long q1), .second, .val (.int (((q1.toUInt64 >>> ((32 : Int32) &&& 0x3f).toInt64.toUInt64).toInt64).toInt32))] [(.int (q1.toInt32)), (.int (32 : Int32))])) t → Steps p.tables e below G t := by
      intro t k
      refine K1 t ?_
      show Steps p.tables e below (s₁.setTop (mkF m 7 #[.val (.long q1), .second, .val (.int (((q1.toUInt64 >>> ((32 : Int32) &&& 0x3f).toInt64.toUInt64).toInt64).toInt32))] [(.int (((q1.toUInt64 >>> ((32 : Int32) &&& 0x3f).toInt64.toUInt64).toInt64).toInt32))])) _
      refine XS.ifNo X0.here hx rfl (hb hby d5_7) rfl ((if0 _ _).trans (teq hc2).2) ?_
      show Steps p.tables e below (s₁.setTop (mkF m 10 #[.val (.long q1), .second, .val (.int (((q1.toUInt64 >>> ((32 : Int32) &&& 0x3f).toInt64.toUInt64).toInt64).toInt32))] [])) _
      refine XS.bipush X0.here hx rfl (hb hby d5_10) ?_
      show Steps p.tables e below (s₁.setTop (mkF m 12 #[.val (.long q1), .second, .val (.int (((q1.toUInt64 >>> ((32 : Int32) &&& 0x3f).toInt64.toUInt64).toInt64).toInt32))] [(.int (32 : Int32))])) _
      refine XS.lloadN X0.here hx rfl (hb hby d5_12) rfl ?_
      show Steps p.tables e below (s₁.setTop (mkF m 13 #[.val (.long q1), .second, .val (.int (((q1.toUInt64 >>> ((32 : Int32) &&& 0x3f).toInt64.toUInt64).toInt64).toInt32))] [(.long q1), (.int (32 : Int32))])) _
      refine XS.l2i X0.here hx rfl (hb hby d5_13) rfl ?_
      show Steps p.tables e below (s₁.setTop (mkF m 14 #[.val (.long q1), .second, .val (.int (((q1.toUInt64 >>> ((32 : Int32) &&& 0x3f).toInt64.toUInt64).toInt64).toInt32))] [(.int (q1.toInt32)), (.int (32 : Int32))])) _
      exact k
    obtain ⟨_, _, ⟨T4, L4, kk4, nn4⟩, -, X4, ⟨Lc4, hQ4, lq4, yq4, zq4⟩, st4⟩ := Jvm.LawKit.callS X0 hx (y := (⟨"java/lang/Integer", "numberOfLeadingZeros", "(I)I"⟩ : MethodName)) hown (mvT hZ (hw _ (List.mem_of_getElem? (i := 25) rfl))) (mvT hZ (hw _ (List.mem_of_getElem? (i := 26) rfl))) (mvT hZ (hw _ (List.mem_of_getElem? (i := 27) rfl))) (mvT hZ (hw _ (List.mem_of_getElem? (i := 28) rfl))) (by decide) (backOf (W := 1) (rm6 l Z a0 hw [] (q1.toInt32) h0 n0 Z0) hZ (hw _ (List.mem_of_getElem? (i := 28) rfl)) (hw _ (List.mem_of_getElem? (i := 27) rfl)) (by decide) (by decide)) (g := (mkF m 14 #[.val (.long q1), .second, .val (.int (((q1.toUInt64 >>> ((32 : Int32) &&& 0x3f).toInt64.toUInt64).toInt64).toInt32))] [(.int (q1.toInt32)), (.int (32 : Int32))])) rfl (by rw [hml]; rfl) (argsL := [(.int (q1.toInt32))]) (rest := [(.int (32 : Int32))]) (lenOf pd_0 rfl) rfl (by show 2 * 0 + _ ≤ _; exact Nat.le_of_eq rfl) (hb hby d5_14) (fun _ _ => ⟨rfl, e0, (by decide : 0 + 0 ≤ _), (by decide : 0 + 0 ≤ _)⟩)
    dsimp only [Pt.U, Pt.locs, Pt.cells, Pt.slots] at X4 lq4 yq4 zq4 st4 hQ4
    subst lq4 yq4 zq4
    obtain ⟨r4, rfl, Nq4, e4, hr4⟩ := hQ4
    have N5 := Fr.app N0 Nq4
    have K6 : ∀ t, Steps p.tables e below (T4.setTop (mkF m 17 #[.val (.long q1), .second, .val (.int (((q1.toUInt64 >>> ((32 : Int32) &&& 0x3f).toInt64.toUInt64).toInt64).toInt32))] [(.int r4), (.int (32 : Int32))])) t → Steps p.tables e below G t := fun t k => K3 t (st4 _ k)
    obtain ⟨fs, hr, hrun, hended, hW, hsame⟩ := X4.leave (v := some (.int ((32 : Int32) + r4))) (fun h => by rw [Bd.returns] at h; cases h)
    have KF := K6
    rw [hG] at KF
    refine ⟨_, _, KF _ ?_, hrun, hended, _, _, rfl, ?_, ⟨_, rfl⟩, hW, hsame.mono (by decide) (by decide)⟩
    · show Steps p.tables e below (T4.setTop (mkF m 17 #[.val (.long q1), .second, .val (.int (((q1.toUInt64 >>> ((32 : Int32) &&& 0x3f).toInt64.toUInt64).toInt64).toInt32))] [(.int r4), (.int (32 : Int32))])) _
      refine XS.iadd X4.here hx rfl (hb hby d5_17) rfl ?_
      show Steps p.tables e below (T4.setTop (mkF m 18 #[.val (.long q1), .second, .val (.int (((q1.toUInt64 >>> ((32 : Int32) &&& 0x3f).toInt64.toUInt64).toInt64).toInt32))] [(.int ((32 : Int32) + r4))])) _
      refine XS.goto X4.here hx rfl (pc0 := 18) (pc' := 25) rfl (hb hby d5_18) (by decide) (by decide) ?_
      show Steps p.tables e below (T4.setTop (mkF m 25 #[.val (.long q1), .second, .val (.int (((q1.toUInt64 >>> ((32 : Int32) &&& 0x3f).toInt64.toUInt64).toInt64).toInt32))] [(.int ((32 : Int32) + r4))])) _
      exact own_retI X4 hx Bd.returns (hb hby d5_25) hr
    · show Q5 q1 h0 n0 _ T4.heap _
      rw [e4]
      exact ⟨_, rfl, N5, rfl, own_nl_lo hr4 hc2⟩
  · have K7 : ∀ t, Steps p.tables e below (s₁.setTop (mkF m 22 #[.val (.long q1), .second, .val (.int (((q1.toUInt64 >>> ((32 : Int32) &&& 0x3f).toInt64.toUInt64).toInt64).toInt32))] [(.int (((q1.toUInt64 >>> ((32 : Int32) &&& 0x3f).toInt64.toUInt64).toInt64).toInt32))])) t → Steps p.tables e below G t := by
      intro t k
      refine K1 t ?_
      show Steps p.tables e below (s₁.setTop (mkF m 7 #[.val (.long q1), .second, .val (.int (((q1.toUInt64 >>> ((32 : Int32) &&& 0x3f).toInt64.toUInt64).toInt64).toInt32))] [(.int (((q1.toUInt64 >>> ((32 : Int32) &&& 0x3f).toInt64.toUInt64).toInt64).toInt32))])) _
      refine XS.ifYes X0.here hx rfl (pc0 := 7) (pc' := 21) rfl (hb hby d5_7) rfl ((if0 _ _).trans (feq hc2).2) (by decide) (by decide) ?_
      show Steps p.tables e below (s₁.setTop (mkF m 21 #[.val (.long q1), .second, .val (.int (((q1.toUInt64 >>> ((32 : Int32) &&& 0x3f).toInt64.toUInt64).toInt64).toInt32))] [])) _
      refine XS.iloadN X0.here hx rfl (hb hby d5_21) rfl ?_
      show Steps p.tables e below (s₁.setTop (mkF m 22 #[.val (.long q1), .second, .val (.int (((q1.toUInt64 >>> ((32 : Int32) &&& 0x3f).toInt64.toUInt64).toInt64).toInt32))] [(.int (((q1.toUInt64 >>> ((32 : Int32) &&& 0x3f).toInt64.toUInt64).toInt64).toInt32))])) _
      exact k
    obtain ⟨_, _, ⟨T8, L8, kk8, nn8⟩, -, X8, ⟨Lc8, hQ8, lq8, yq8, zq8⟩, st8⟩ := Jvm.LawKit.callS X0 hx (y := (⟨"java/lang/Integer", "numberOfLeadingZeros", "(I)I"⟩ : MethodName)) hown (mvT hZ (hw _ (List.mem_of_getElem? (i := 25) rfl))) (mvT hZ (hw _ (List.mem_of_getElem? (i := 26) rfl))) (mvT hZ (hw _ (List.mem_of_getElem? (i := 27) rfl))) (mvT hZ (hw _ (List.mem_of_getElem? (i := 28) rfl))) (by decide) (backOf (W := 0) (rm6 l Z a0 hw [] (((q1.toUInt64 >>> ((32 : Int32) &&& 0x3f).toInt64.toUInt64).toInt64).toInt32) h0 n0 Z0) hZ (hw _ (List.mem_of_getElem? (i := 28) rfl)) (hw _ (List.mem_of_getElem? (i := 27) rfl)) (by decide) (by decide)) (g := (mkF m 22 #[.val (.long q1), .second, .val (.int (((q1.toUInt64 >>> ((32 : Int32) &&& 0x3f).toInt64.toUInt64).toInt64).toInt32))] [(.int (((q1.toUInt64 >>> ((32 : Int32) &&& 0x3f).toInt64.toUInt64).toInt64).toInt32))])) rfl (by rw [hml]; rfl) (argsL := [(.int (((q1.toUInt64 >>> ((32 : Int32) &&& 0x3f).toInt64.toUInt64).toInt64).toInt32))]) (rest := []) (lenOf pd_0 rfl) rfl (by show 2 * 0 + _ ≤ _; exact Nat.le_of_eq rfl) (hb hby d5_22) (fun _ _ => ⟨rfl, e0, (by decide : 0 + 0 ≤ _), (by decide : 0 + 0 ≤ _)⟩)
    dsimp only [Pt.U, Pt.locs, Pt.cells, Pt.slots] at X8 lq8 yq8 zq8 st8 hQ8
    subst lq8 yq8 zq8
    obtain ⟨r8, rfl, Nq8, e8, hr8⟩ := hQ8
    have N9 := Fr.app N0 Nq8
    have K10 : ∀ t, Steps p.tables e below (T8.setTop (mkF m 25 #[.val (.long q1), .second, .val (.int (((q1.toUInt64 >>> ((32 : Int32) &&& 0x3f).toInt64.toUInt64).toInt64).toInt32))] [(.int r8)])) t → Steps p.tables e below G t := fun t k => K7 t (st8 _ k)
    obtain ⟨fs, hr, hrun, hended, hW, hsame⟩ := X8.leave (v := some (.int r8)) (fun h => by rw [Bd.returns] at h; cases h)
    have KF := K10
    rw [hG] at KF
    refine ⟨_, _, KF _ ?_, hrun, hended, _, _, rfl, ?_, ⟨_, rfl⟩, hW, hsame.mono (by decide) (by decide)⟩
    · show Steps p.tables e below (T8.setTop (mkF m 25 #[.val (.long q1), .second, .val (.int (((q1.toUInt64 >>> ((32 : Int32) &&& 0x3f).toInt64.toUInt64).toInt64).toInt32))] [(.int r8)])) _
      exact own_retI X8 hx Bd.returns (hb hby d5_25) hr
    · show Q5 q1 h0 n0 _ T8.heap _
      rw [e8]
      exact ⟨_, rfl, N9, rfl, own_nl_hi hr8 hc2⟩
def Q7 (p1 p2 : Int32) (h0 : Heap) (n0 : Nat) (v : Option Value) (h : Heap) (L : List Loc) : Prop := v = some (.int (if p1 < p2 then p2 else p1)) ∧ Fr n0 L ∧ h = h0
theorem d7_0 : decode jdk_29_method_65_code 0 = .ok (.iload_n 0, 1) := by decide +kernel
theorem d7_1 : decode jdk_29_method_65_code 1 = .ok (.iload_n 1, 1) := by decide +kernel
theorem d7_2 : decode jdk_29_method_65_code 2 = .ok (.if_icmp .lt 7, 3) := by decide +kernel
theorem d7_5 : decode jdk_29_method_65_code 5 = .ok (.iload_n 0, 1) := by decide +kernel
theorem d7_6 : decode jdk_29_method_65_code 6 = .ok (.goto 4, 3) := by decide +kernel
theorem d7_9 : decode jdk_29_method_65_code 9 = .ok (.iload_n 1, 1) := by decide +kernel
theorem d7_10 : decode jdk_29_method_65_code 10 = .ok (.ireturn, 1) := by decide +kernel
theorem ef_rm7 (m : MethodId) (x0 : Int32) (x1 : Int32) : entryFrame m #[(.int x0), (.int x1)] 2 = mkF m 0 #[.val (.int x0), .val (.int x1)] [] := by first | (simp [entryFrame, mkF, argsToLocals, Value.category]; done) | rfl
set_option maxRecDepth 65536 in
set_option maxHeartbeats 40000000 in
theorem rm7 (l : Launch) (Z : State) (a0 : Array Value) (hw : ∀ d ∈ tables_1, d.before a0 Z = true) (ws : List Jvm.Cond) (p1 p2 : Int32) (h0 : Heap) (n0 : Nat) (Z0 : n0 ≤ h0.size) :
    MetFree l (⟨"java/lang/Math", "max", "(II)I"⟩ : MethodName) (head1 (Jvm.Cond.code (⟨"java/lang/Math", "max", "(II)I"⟩ : MethodName) jdk_29_method_65_code 2 (some .int) :: ws) ({ frames := 0, cells := 0, slots := 0, locals := 0 } : Room)) (fun a U => a = #[(.int p1), (.int p2)] ∧ Z.Warmed39 U.vm ∧ U.heap = h0) (fun _ _ _ _ _ => True) (fun _ U o U' => ∃ v L, o = .returned v ∧ Q7 p1 p2 h0 n0 v U'.heap L ∧ FrameEnd U o U' L ({ frames := 0, cells := 0, slots := 0, locals := 0 } : Room).cells ({ frames := 0, cells := 0, slots := 0, locals := 0 } : Room).slots) := by
  refine MetFree.of_bodySF (Jvm.Free.JP.mathPlain rfl (by decide +kernel)) hisR ?_
  intro p e s m args below meth c s₁ Bd hml0 hP hK
  obtain ⟨rfl, hZ, hh⟩ := hP
  have hx := Bd.exec
  have hby := Bd.bytes
  have hml : c.maxLocals = 2 := hml0
  have hown : s.vm.findClass "java/lang/Math" = some m.cls := findClass_of_methodNamed Bd.named
  have hnm := (name_of_methodNamed Bd.named Bd.method).1
  have X0 : Stand p l e ({ frames := 0, cells := 0, slots := 0, locals := 0 } : Room) s m #[(.int p1), (.int p2)] below meth c s₁ [] 0 0 := Stand.of_body Bd
  have e0 : s₁.heap = h0 := by rw [← hh, Bd.state]; rfl
  have N0 := Fr.nil n0
  have KP0 : Keep h0 h0 [] := Keep.refl h0 _
  obtain ⟨G, hG⟩ : ∃ G : State, G = s₁.setTop (entryFrame m #[(.int p1), (.int p2)] 2) := ⟨_, rfl⟩
  have pre0 : ∀ t, Steps p.tables e below (s₁.setTop (mkF m 0 #[.val (.int p1), .val (.int p2)] [])) t → Steps p.tables e below G t := fun t k => hG ▸ castTop (ef_rm7 m p1 p2) k
  have K1 : ∀ t, Steps p.tables e below (s₁.setTop (mkF m 2 #[.val (.int p1), .val (.int p2)] [(.int p2), (.int p1)])) t → Steps p.tables e below G t := by
    intro t k
    refine pre0 t ?_
    show Steps p.tables e below (s₁.setTop (mkF m 0 #[.val (.int p1), .val (.int p2)] [])) _
    refine XS.iloadN X0.here hx rfl (hb hby d7_0) rfl ?_
    show Steps p.tables e below (s₁.setTop (mkF m 1 #[.val (.int p1), .val (.int p2)] [(.int p1)])) _
    refine XS.iloadN X0.here hx rfl (hb hby d7_1) rfl ?_
    show Steps p.tables e below (s₁.setTop (mkF m 2 #[.val (.int p1), .val (.int p2)] [(.int p2), (.int p1)])) _
    exact k
  by_cases hc2 : p1 < p2
  · obtain ⟨fs, hr, hrun, hended, hW, hsame⟩ := X0.leave (v := some (.int p2)) (fun h => by rw [Bd.returns] at h; cases h)
    have KF := K1
    rw [hG] at KF
    refine ⟨_, _, KF _ ?_, hrun, hended, _, _, rfl, ?_, ⟨_, rfl⟩, hW, hsame.mono (by decide) (by decide)⟩
    · show Steps p.tables e below (s₁.setTop (mkF m 2 #[.val (.int p1), .val (.int p2)] [(.int p2), (.int p1)])) _
      refine XS.icmpYes X0.here hx rfl (pc0 := 2) (pc' := 9) rfl (hb hby d7_2) rfl (tlt hc2).1 (by decide) (by decide) ?_
      show Steps p.tables e below (s₁.setTop (mkF m 9 #[.val (.int p1), .val (.int p2)] [])) _
      refine XS.iloadN X0.here hx rfl (hb hby d7_9) rfl ?_
      show Steps p.tables e below (s₁.setTop (mkF m 10 #[.val (.int p1), .val (.int p2)] [(.int p2)])) _
      exact own_retI X0 hx Bd.returns (hb hby d7_10) hr
    · show Q7 p1 p2 h0 n0 _ s₁.heap _
      rw [e0]
      exact ⟨by simp only [if_pos hc2], N0, rfl⟩
  · obtain ⟨fs, hr, hrun, hended, hW, hsame⟩ := X0.leave (v := some (.int p1)) (fun h => by rw [Bd.returns] at h; cases h)
    have KF := K1
    rw [hG] at KF
    refine ⟨_, _, KF _ ?_, hrun, hended, _, _, rfl, ?_, ⟨_, rfl⟩, hW, hsame.mono (by decide) (by decide)⟩
    · show Steps p.tables e below (s₁.setTop (mkF m 2 #[.val (.int p1), .val (.int p2)] [(.int p2), (.int p1)])) _
      refine XS.icmpNo X0.here hx rfl (hb hby d7_2) rfl (flt hc2).1 ?_
      show Steps p.tables e below (s₁.setTop (mkF m 5 #[.val (.int p1), .val (.int p2)] [])) _
      refine XS.iloadN X0.here hx rfl (hb hby d7_5) rfl ?_
      show Steps p.tables e below (s₁.setTop (mkF m 6 #[.val (.int p1), .val (.int p2)] [(.int p1)])) _
      refine XS.goto X0.here hx rfl (pc0 := 6) (pc' := 10) rfl (hb hby d7_6) (by decide) (by decide) ?_
      show Steps p.tables e below (s₁.setTop (mkF m 10 #[.val (.int p1), .val (.int p2)] [(.int p1)])) _
      exact own_retI X0 hx Bd.returns (hb hby d7_10) hr
    · show Q7 p1 p2 h0 n0 _ s₁.heap _
      rw [e0]
      exact ⟨by simp only [if_neg hc2], N0, rfl⟩
def Q10 (p1 p2 : Int64) (h0 : Heap) (n0 : Nat) (v : Option Value) (h : Heap) (L : List Loc) : Prop := v = some (.long (if p2 < p1 then p2 else p1)) ∧ Fr n0 L ∧ h = h0
theorem d10_0 : decode jdk_29_method_70_code 0 = .ok (.lload_n 0, 1) := by decide +kernel
theorem d10_1 : decode jdk_29_method_70_code 1 = .ok (.lload_n 2, 1) := by decide +kernel
theorem d10_2 : decode jdk_29_method_70_code 2 = .ok (.lcmp, 1) := by decide +kernel
theorem d10_3 : decode jdk_29_method_70_code 3 = .ok (.ifCond .gt 7, 3) := by decide +kernel
theorem d10_6 : decode jdk_29_method_70_code 6 = .ok (.lload_n 0, 1) := by decide +kernel
theorem d10_7 : decode jdk_29_method_70_code 7 = .ok (.goto 4, 3) := by decide +kernel
theorem d10_10 : decode jdk_29_method_70_code 10 = .ok (.lload_n 2, 1) := by decide +kernel
theorem d10_11 : decode jdk_29_method_70_code 11 = .ok (.lreturn, 1) := by decide +kernel
theorem ef_rm10 (m : MethodId) (x0 : Int64) (x1 : Int64) : entryFrame m #[(.long x0), (.long x1)] 4 = mkF m 0 #[.val (.long x0), .second, .val (.long x1), .second] [] := by first | (simp [entryFrame, mkF, argsToLocals, Value.category]; done) | rfl
set_option maxRecDepth 65536 in
set_option maxHeartbeats 40000000 in
theorem rm10 (l : Launch) (Z : State) (a0 : Array Value) (hw : ∀ d ∈ tables_1, d.before a0 Z = true) (ws : List Jvm.Cond) (p1 p2 : Int64) (h0 : Heap) (n0 : Nat) (Z0 : n0 ≤ h0.size) :
    MetFree l (⟨"java/lang/Math", "min", "(JJ)J"⟩ : MethodName) (head1 (Jvm.Cond.code (⟨"java/lang/Math", "min", "(JJ)J"⟩ : MethodName) jdk_29_method_70_code 4 (some .long) :: ws) ({ frames := 0, cells := 0, slots := 0, locals := 0 } : Room)) (fun a U => a = #[(.long p1), (.long p2)] ∧ Z.Warmed39 U.vm ∧ U.heap = h0) (fun _ _ _ _ _ => True) (fun _ U o U' => ∃ v L, o = .returned v ∧ Q10 p1 p2 h0 n0 v U'.heap L ∧ FrameEnd U o U' L ({ frames := 0, cells := 0, slots := 0, locals := 0 } : Room).cells ({ frames := 0, cells := 0, slots := 0, locals := 0 } : Room).slots) := by
  refine MetFree.of_bodySF (Jvm.Free.JP.mathPlain rfl (by decide +kernel)) hisR ?_
  intro p e s m args below meth c s₁ Bd hml0 hP hK
  obtain ⟨rfl, hZ, hh⟩ := hP
  have hx := Bd.exec
  have hby := Bd.bytes
  have hml : c.maxLocals = 4 := hml0
  have hown : s.vm.findClass "java/lang/Math" = some m.cls := findClass_of_methodNamed Bd.named
  have hnm := (name_of_methodNamed Bd.named Bd.method).1
  have X0 : Stand p l e ({ frames := 0, cells := 0, slots := 0, locals := 0 } : Room) s m #[(.long p1), (.long p2)] below meth c s₁ [] 0 0 := Stand.of_body Bd
  have e0 : s₁.heap = h0 := by rw [← hh, Bd.state]; rfl
  have N0 := Fr.nil n0
  have KP0 : Keep h0 h0 [] := Keep.refl h0 _
  obtain ⟨G, hG⟩ : ∃ G : State, G = s₁.setTop (entryFrame m #[(.long p1), (.long p2)] 4) := ⟨_, rfl⟩
  have pre0 : ∀ t, Steps p.tables e below (s₁.setTop (mkF m 0 #[.val (.long p1), .second, .val (.long p2), .second] [])) t → Steps p.tables e below G t := fun t k => hG ▸ castTop (ef_rm10 m p1 p2) k
  have K1 : ∀ t, Steps p.tables e below (s₁.setTop (mkF m 3 #[.val (.long p1), .second, .val (.long p2), .second] [(.int (lcmpW p1 p2))])) t → Steps p.tables e below G t := by
    intro t k
    refine pre0 t ?_
    show Steps p.tables e below (s₁.setTop (mkF m 0 #[.val (.long p1), .second, .val (.long p2), .second] [])) _
    refine XS.lloadN X0.here hx rfl (hb hby d10_0) rfl ?_
    show Steps p.tables e below (s₁.setTop (mkF m 1 #[.val (.long p1), .second, .val (.long p2), .second] [(.long p1)])) _
    refine XS.lloadN X0.here hx rfl (hb hby d10_1) rfl ?_
    show Steps p.tables e below (s₁.setTop (mkF m 2 #[.val (.long p1), .second, .val (.long p2), .second] [(.long p2), (.long p1)])) _
    refine XS.lcmp X0.here hx rfl (hb hby d10_2) rfl ?_
    show Steps p.tables e below (s₁.setTop (mkF m 3 #[.val (.long p1), .second, .val (.long p2), .second] [(.int (lcmpW p1 p2))])) _
    exact k
  by_cases hc2 : p2 < p1
  · obtain ⟨fs, hr, hrun, hended, hW, hsame⟩ := X0.leave (v := some (.long p2)) (fun h => by rw [Bd.returns] at h; cases h)
    have KF := K1
    rw [hG] at KF
    refine ⟨_, _, KF _ ?_, hrun, hended, _, _, rfl, ?_, ⟨_, rfl⟩, hW, hsame.mono (by decide) (by decide)⟩
    · show Steps p.tables e below (s₁.setTop (mkF m 3 #[.val (.long p1), .second, .val (.long p2), .second] [(.int (lcmpW p1 p2))])) _
      refine XS.ifYes X0.here hx rfl (pc0 := 3) (pc' := 10) rfl (hb hby d10_3) rfl ((if0 _ _).trans (tlt ((lw_gt p1 p2).mpr hc2)).2.2.1) (by decide) (by decide) ?_
      show Steps p.tables e below (s₁.setTop (mkF m 10 #[.val (.long p1), .second, .val (.long p2), .second] [])) _
      refine XS.lloadN X0.here hx rfl (hb hby d10_10) rfl ?_
      show Steps p.tables e below (s₁.setTop (mkF m 11 #[.val (.long p1), .second, .val (.long p2), .second] [(.long p2)])) _
      exact own_retL X0 hx Bd.returns (hb hby d10_11) hr
    · show Q10 p1 p2 h0 n0 _ s₁.heap _
      rw [e0]
      exact ⟨by simp only [if_pos hc2], N0, rfl⟩
  · obtain ⟨fs, hr, hrun, hended, hW, hsame⟩ := X0.leave (v := some (.long p1)) (fun h => by rw [Bd.returns] at h; cases h)
    have KF := K1
    rw [hG] at KF
    refine ⟨_, _, KF _ ?_, hrun, hended, _, _, rfl, ?_, ⟨_, rfl⟩, hW, hsame.mono (by decide) (by decide)⟩
    · show Steps p.tables e below (s₁.setTop (mkF m 3 #[.val (.long p1), .second, .val (.long p2), .second] [(.int (lcmpW p1 p2))])) _
      refine XS.ifNo X0.here hx rfl (hb hby d10_3) rfl ((if0 _ _).trans (flt (fun q => hc2 ((lw_gt p1 p2).mp q))).2.2.1) ?_
      show Steps p.tables e below (s₁.setTop (mkF m 6 #[.val (.long p1), .second, .val (.long p2), .second] [])) _
      refine XS.lloadN X0.here hx rfl (hb hby d10_6) rfl ?_
      show Steps p.tables e below (s₁.setTop (mkF m 7 #[.val (.long p1), .second, .val (.long p2), .second] [(.long p1)])) _
      refine XS.goto X0.here hx rfl (pc0 := 7) (pc' := 11) rfl (hb hby d10_7) (by decide) (by decide) ?_
      show Steps p.tables e below (s₁.setTop (mkF m 11 #[.val (.long p1), .second, .val (.long p2), .second] [(.long p1)])) _
      exact own_retL X0 hx Bd.returns (hb hby d10_11) hr
    · show Q10 p1 p2 h0 n0 _ s₁.heap _
      rw [e0]
      exact ⟨by simp only [if_neg hc2], N0, rfl⟩
def Q8 (a1 : Addr) (p1 p2 : Int32) (h0 : Heap) (n0 : Nat) (v : Option Value) (h : Heap) (L : List Loc) : Prop := v = some (.long (((((p1).toInt64 * (p2).toInt64) + (64 : Int64)) - (1 : Int64)) / (64 : Int64))) ∧ Fr n0 L ∧ h = h0
theorem d8_0 : decode prog_26_method_4_code 0 = .ok (.aload_n 0, 1) := by decide +kernel
theorem d8_1 : decode prog_26_method_4_code 1 = .ok (.getfield 14, 3) := by decide +kernel
theorem d8_4 : decode prog_26_method_4_code 4 = .ok (.i2l, 1) := by decide +kernel
theorem d8_5 : decode prog_26_method_4_code 5 = .ok (.aload_n 0, 1) := by decide +kernel
theorem d8_6 : decode prog_26_method_4_code 6 = .ok (.getfield 30, 3) := by decide +kernel
theorem d8_9 : decode prog_26_method_4_code 9 = .ok (.i2l, 1) := by decide +kernel
theorem d8_10 : decode prog_26_method_4_code 10 = .ok (.lmul, 1) := by decide +kernel
theorem d8_11 : decode prog_26_method_4_code 11 = .ok (.ldc2_w 55, 3) := by decide +kernel
theorem d8_14 : decode prog_26_method_4_code 14 = .ok (.ladd, 1) := by decide +kernel
theorem d8_15 : decode prog_26_method_4_code 15 = .ok (.lconst 1, 1) := by decide +kernel
theorem d8_16 : decode prog_26_method_4_code 16 = .ok (.lsub, 1) := by decide +kernel
theorem d8_17 : decode prog_26_method_4_code 17 = .ok (.ldc2_w 55, 3) := by decide +kernel
theorem d8_20 : decode prog_26_method_4_code 20 = .ok (.ldiv, 1) := by decide +kernel
theorem d8_21 : decode prog_26_method_4_code 21 = .ok (.lreturn, 1) := by decide +kernel
theorem ef_rm8 (m : MethodId) (x0 : Addr) : entryFrame m #[(.ref x0)] 1 = mkF m 0 #[.val (.ref x0)] [] := by first | (simp [entryFrame, mkF, argsToLocals, Value.category]; done) | rfl
set_option maxRecDepth 65536 in
set_option maxHeartbeats 40000000 in
theorem rm8 (l : Launch) (Z : State) (a0 : Array Value) (hw : ∀ d ∈ tables_1, d.before a0 Z = true) (ws : List Jvm.Cond) (a1 : Addr) (p1 p2 : Int32) (h0 : Heap) (n0 : Nat) (Z0 : n0 ≤ h0.size) (F1 : Fld Z h0 a1 "com/example/holdover/holdover/analysis/FixedWidthLongs" "size" "I" (.int p1)) (F2 : Fld Z h0 a1 "com/example/holdover/holdover/analysis/FixedWidthLongs" "width" "I" (.int p2)) :
    MetFree l (⟨"com/example/holdover/holdover/analysis/FixedWidthLongs", "words", "()J"⟩ : MethodName) (head1 (Jvm.Cond.code (⟨"com/example/holdover/holdover/analysis/FixedWidthLongs", "words", "()J"⟩ : MethodName) prog_26_method_4_code 1 (some .long) :: ws) ({ frames := 0, cells := 0, slots := 0, locals := 0 } : Room)) (fun a U => a = #[(.ref a1)] ∧ Z.Warmed39 U.vm ∧ U.heap = h0) (fun _ _ _ _ _ => True) (fun _ U o U' => ∃ v L, o = .returned v ∧ Q8 a1 p1 p2 h0 n0 v U'.heap L ∧ FrameEnd U o U' L ({ frames := 0, cells := 0, slots := 0, locals := 0 } : Room).cells ({ frames := 0, cells := 0, slots := 0, locals := 0 } : Room).slots) := by
  refine MetFree.of_bodySF (plainFor_of_name pn_com_example_holdover_holdover_analysis_FixedWidthLongs) hisR ?_
  intro p e s m args below meth c s₁ Bd hml0 hP hK
  obtain ⟨rfl, hZ, hh⟩ := hP
  have hx := Bd.exec
  have hby := Bd.bytes
  have hml : c.maxLocals = 1 := hml0
  have hown : s.vm.findClass "com/example/holdover/holdover/analysis/FixedWidthLongs" = some m.cls := findClass_of_methodNamed Bd.named
  have hnm := (name_of_methodNamed Bd.named Bd.method).1
  have X0 : Stand p l e ({ frames := 0, cells := 0, slots := 0, locals := 0 } : Room) s m #[(.ref a1)] below meth c s₁ [] 0 0 := Stand.of_body Bd
  have e0 : s₁.heap = h0 := by rw [← hh, Bd.state]; rfl
  have N0 := Fr.nil n0
  have KP0 : Keep h0 h0 [] := Keep.refl h0 _
  obtain ⟨G, hG⟩ : ∃ G : State, G = s₁.setTop (entryFrame m #[(.ref a1)] 1) := ⟨_, rfl⟩
  have pre0 : ∀ t, Steps p.tables e below (s₁.setTop (mkF m 0 #[.val (.ref a1)] [])) t → Steps p.tables e below G t := fun t k => hG ▸ castTop (ef_rm8 m a1) k
  have K1 : ∀ t, Steps p.tables e below (s₁.setTop (mkF m 1 #[.val (.ref a1)] [(.ref a1)])) t → Steps p.tables e below G t := by
    intro t k
    refine pre0 t ?_
    show Steps p.tables e below (s₁.setTop (mkF m 0 #[.val (.ref a1)] [])) _
    refine XS.aloadN X0.here hx rfl (hb hby d8_0) rfl rfl ?_
    show Steps p.tables e below (s₁.setTop (mkF m 1 #[.val (.ref a1)] [(.ref a1)])) _
    exact k
  obtain ⟨T2, X2, e2, st2⟩ := getF X0 hx hZ hown (host := "") (Or.inl (hw _ (List.mem_of_getElem? (i := 19) rfl))) Via.refl e0 F1 (g := (mkF m 1 #[.val (.ref a1)] [(.ref a1)])) rfl rfl (hb hby d8_1)
  have K3 : ∀ t, Steps p.tables e below (T2.setTop (mkF m 4 #[.val (.ref a1)] [(.int p1)])) t → Steps p.tables e below G t := fun t k => K1 t (st2 t k)
  have K4 : ∀ t, Steps p.tables e below (T2.setTop (mkF m 6 #[.val (.ref a1)] [(.ref a1), (.long (p1.toInt64))])) t → Steps p.tables e below G t := by
    intro t k
    refine K3 t ?_
    show Steps p.tables e below (T2.setTop (mkF m 4 #[.val (.ref a1)] [(.int p1)])) _
    refine XS.i2l X2.here hx rfl (hb hby d8_4) rfl ?_
    show Steps p.tables e below (T2.setTop (mkF m 5 #[.val (.ref a1)] [(.long (p1.toInt64))])) _
    refine XS.aloadN X2.here hx rfl (hb hby d8_5) rfl rfl ?_
    show Steps p.tables e below (T2.setTop (mkF m 6 #[.val (.ref a1)] [(.ref a1), (.long (p1.toInt64))])) _
    exact k
  obtain ⟨T5, X5, e5, st5⟩ := getF X2 hx hZ hown (host := "") (Or.inl (hw _ (List.mem_of_getElem? (i := 33) rfl))) Via.refl e2 F2 (g := (mkF m 6 #[.val (.ref a1)] [(.ref a1), (.long (p1.toInt64))])) rfl rfl (hb hby d8_6)
  have K6 : ∀ t, Steps p.tables e below (T5.setTop (mkF m 9 #[.val (.ref a1)] [(.int p2), (.long (p1.toInt64))])) t → Steps p.tables e below G t := fun t k => K4 t (st5 t k)
  obtain ⟨fs, hr, hrun, hended, hW, hsame⟩ := X5.leave (v := some (.long (((((p1.toInt64) * (p2.toInt64)) + (64 : Int64)) - (1 : Int64)) / (64 : Int64)))) (fun h => by rw [Bd.returns] at h; cases h)
  have KF := K6
  rw [hG] at KF
  refine ⟨_, _, KF _ ?_, hrun, hended, _, _, rfl, ?_, ⟨_, rfl⟩, hW, hsame.mono (by decide) (by decide)⟩
  · show Steps p.tables e below (T5.setTop (mkF m 9 #[.val (.ref a1)] [(.int p2), (.long (p1.toInt64))])) _
    refine XS.i2l X5.here hx rfl (hb hby d8_9) rfl ?_
    show Steps p.tables e below (T5.setTop (mkF m 10 #[.val (.ref a1)] [(.long (p2.toInt64)), (.long (p1.toInt64))])) _
    refine XS.lmul X5.here hx rfl (hb hby d8_10) rfl ?_
    show Steps p.tables e below (T5.setTop (mkF m 11 #[.val (.ref a1)] [(.long ((p1.toInt64) * (p2.toInt64)))])) _
    refine X5.ldc2Long hx hown (mvT hZ (hw _ (List.mem_of_getElem? (i := 42) rfl))) (g := (mkF m 11 #[.val (.ref a1)] [(.long ((p1.toInt64) * (p2.toInt64)))])) rfl (hb hby d8_11) _ ?_
    show Steps p.tables e below (T5.setTop (mkF m 14 #[.val (.ref a1)] [(.long (64 : Int64)), (.long ((p1.toInt64) * (p2.toInt64)))])) _
    refine XS.ladd X5.here hx rfl (hb hby d8_14) rfl ?_
    show Steps p.tables e below (T5.setTop (mkF m 15 #[.val (.ref a1)] [(.long (((p1.toInt64) * (p2.toInt64)) + (64 : Int64)))])) _
    refine XS.lconst X5.here hx rfl (hb hby d8_15) ?_
    show Steps p.tables e below (T5.setTop (mkF m 16 #[.val (.ref a1)] [(.long (1 : Int64)), (.long (((p1.toInt64) * (p2.toInt64)) + (64 : Int64)))])) _
    refine XS.lsub X5.here hx rfl (hb hby d8_16) rfl ?_
    show Steps p.tables e below (T5.setTop (mkF m 17 #[.val (.ref a1)] [(.long ((((p1.toInt64) * (p2.toInt64)) + (64 : Int64)) - (1 : Int64)))])) _
    refine X5.ldc2Long hx hown (mvT hZ (hw _ (List.mem_of_getElem? (i := 42) rfl))) (g := (mkF m 17 #[.val (.ref a1)] [(.long ((((p1.toInt64) * (p2.toInt64)) + (64 : Int64)) - (1 : Int64)))])) rfl (hb hby d8_17) _ ?_
    show Steps p.tables e below (T5.setTop (mkF m 20 #[.val (.ref a1)] [(.long (64 : Int64)), (.long ((((p1.toInt64) * (p2.toInt64)) + (64 : Int64)) - (1 : Int64)))])) _
    refine XS.ldiv X5.here hx rfl (hb hby d8_20) rfl (by decide) ?_
    show Steps p.tables e below (T5.setTop (mkF m 21 #[.val (.ref a1)] [(.long (((((p1.toInt64) * (p2.toInt64)) + (64 : Int64)) - (1 : Int64)) / (64 : Int64)))])) _
    exact own_retL X5 hx Bd.returns (hb hby d8_21) hr
  · show Q8 a1 p1 p2 h0 n0 _ T5.heap _
    rw [e5]
    exact ⟨rfl, N0, rfl⟩
def Q9 (Z : State) (p1 : Int32) (nw : Nat) (h0 : Heap) (n0 : Nat) (v : Option Value) (h : Heap) (L : List Loc) : Prop := ∃ b : Addr, v = some (.ref b) ∧ Fr n0 L ∧ Ext h0 h ∧ b = h0.size ∧ own_Af Z h b (min 8192 (nw - 8192 * p1.toNatClampNeg)) (fun _ => 0) ∧ Exa Z h b "[J"
theorem own_npl {wv : Int64} {i : Int32} {nw : Nat} (hw : wv.toInt = nw) (hn : nw ≤ 16384) (hi : 0 ≤ i.toInt ∧ 8192 * i.toInt < nw) {ml : Int64} (hm : ml = if wv - (i.toInt64 <<< ((13 : Int32) &&& 0x3f).toInt64) < (8192 : Int64) then wv - (i.toInt64 <<< ((13 : Int32) &&& 0x3f).toInt64) else (8192 : Int64)) : ¬ ml.toInt32 < 0 ∧ ml.toInt32.toNatClampNeg ≤ 8192 ∧ ml.toInt32.toNatClampNeg = min 8192 (nw - 8192 * i.toNatClampNeg) := by
  have a := c_lshl i.toInt64 13 13 (by decide); rw [c_i2l] at a
  have ra := rng64 (i.toInt64 <<< ((13 : Int32) &&& 0x3f).toInt64)
  have e : (i.toInt64 <<< ((13 : Int32) &&& 0x3f).toInt64).toInt = 8192 * i.toInt := by omega
  have s := c_lsub wv (i.toInt64 <<< ((13 : Int32) &&& 0x3f).toInt64); have rs := rng64 (wv - (i.toInt64 <<< ((13 : Int32) &&& 0x3f).toInt64))
  have es : (wv - (i.toInt64 <<< ((13 : Int32) &&& 0x3f).toInt64)).toInt = nw - 8192 * i.toInt := by omega
  have z8 : (8192 : Int64).toInt = 8192 := rfl
  have z0 : (0 : Int32).toInt = 0 := rfl
  have ni := own_nn hi.1
  have em : ml.toInt = ((min 8192 (nw - 8192 * i.toNatClampNeg) : Nat) : Int) := by
    simp only [Int64.lt_iff_toInt_lt, es, z8] at hm
    by_cases q : (nw : Int) - 8192 * i.toInt < 8192
    · rw [if_pos q] at hm; rw [hm, es]; omega
    · rw [if_neg q] at hm; rw [hm, z8]; omega
  have e32 := own_l2i em (by omega)
  refine ⟨by rw [Int32.lt_iff_toInt_lt, e32]; omega, by simp only [Int32.toNatClampNeg, e32]; omega, by simp only [Int32.toNatClampNeg, e32]; omega⟩
theorem d9_0 : decode prog_26_method_5_code 0 = .ok (.ldc2_w 57, 3) := by decide +kernel
theorem d9_3 : decode prog_26_method_5_code 3 = .ok (.aload_n 0, 1) := by decide +kernel
theorem d9_4 : decode prog_26_method_5_code 4 = .ok (.invokevirtual 39, 3) := by decide +kernel
theorem d9_7 : decode prog_26_method_5_code 7 = .ok (.iload_n 1, 1) := by decide +kernel
theorem d9_8 : decode prog_26_method_5_code 8 = .ok (.i2l, 1) := by decide +kernel
theorem d9_9 : decode prog_26_method_5_code 9 = .ok (.bipush 13, 2) := by decide +kernel
theorem d9_11 : decode prog_26_method_5_code 11 = .ok (.lshl, 1) := by decide +kernel
theorem d9_12 : decode prog_26_method_5_code 12 = .ok (.lsub, 1) := by decide +kernel
theorem d9_13 : decode prog_26_method_5_code 13 = .ok (.invokestatic 59, 3) := by decide +kernel
theorem d9_16 : decode prog_26_method_5_code 16 = .ok (.l2i, 1) := by decide +kernel
theorem d9_17 : decode prog_26_method_5_code 17 = .ok (.newarray .long, 2) := by decide +kernel
theorem d9_19 : decode prog_26_method_5_code 19 = .ok (.areturn, 1) := by decide +kernel
theorem pd_1 : parseMethodDescriptor "()J" = some ⟨[], some .long⟩ := by decide +kernel
theorem pd_2 : parseMethodDescriptor "(JJ)J" = some ⟨[.long, .long], some .long⟩ := by decide +kernel
theorem ef_rm9 (m : MethodId) (x0 : Addr) (x1 : Int32) : entryFrame m #[(.ref x0), (.int x1)] 2 = mkF m 0 #[.val (.ref x0), .val (.int x1)] [] := by first | (simp [entryFrame, mkF, argsToLocals, Value.category]; done) | rfl
set_option maxRecDepth 65536 in
set_option maxHeartbeats 40000000 in
theorem rm9 (l : Launch) (Z : State) (a0 : Array Value) (hw : ∀ d ∈ tables_1, d.before a0 Z = true) (ws : List Jvm.Cond) (a1 : Addr) (p1 p2 p3 : Int32) (nw : Nat) (h0 : Heap) (n0 : Nat) (Z0 : n0 ≤ h0.size) (E1 : Exa Z h0 a1 "com/example/holdover/holdover/analysis/FixedWidthLongs") (F1 : Fld Z h0 a1 "com/example/holdover/holdover/analysis/FixedWidthLongs" "size" "I" (.int p2)) (F2 : Fld Z h0 a1 "com/example/holdover/holdover/analysis/FixedWidthLongs" "width" "I" (.int p3)) (hwv : (((((p2).toInt64 * (p3).toInt64) + (64 : Int64)) - (1 : Int64)) / (64 : Int64)).toInt = nw) (hnw : nw ≤ 16384) (hi : 0 ≤ p1.toInt ∧ 8192 * p1.toInt < nw) :
    MetFree l (⟨"com/example/holdover/holdover/analysis/FixedWidthLongs", "newPage", "(I)[J"⟩ : MethodName) (head1 (Jvm.Cond.code (⟨"com/example/holdover/holdover/analysis/FixedWidthLongs", "newPage", "(I)[J"⟩ : MethodName) prog_26_method_5_code 2 (some (.array .long)) :: ws) ({ frames := 1, cells := 1, slots := 8192, locals := 15 } : Room)) (fun a U => a = #[(.ref a1), (.int p1)] ∧ Z.Warmed39 U.vm ∧ U.heap = h0) (fun _ _ _ _ _ => True) (fun _ U o U' => ∃ v L, o = .returned v ∧ Q9 Z p1 nw h0 n0 v U'.heap L ∧ FrameEnd U o U' L ({ frames := 1, cells := 1, slots := 8192, locals := 15 } : Room).cells ({ frames := 1, cells := 1, slots := 8192, locals := 15 } : Room).slots) := by
  refine MetFree.of_bodySF (plainFor_of_name pn_com_example_holdover_holdover_analysis_FixedWidthLongs) hisR ?_
  intro p e s m args below meth c s₁ Bd hml0 hP hK
  obtain ⟨rfl, hZ, hh⟩ := hP
  have hx := Bd.exec
  have hby := Bd.bytes
  have hml : c.maxLocals = 2 := hml0
  have hown : s.vm.findClass "com/example/holdover/holdover/analysis/FixedWidthLongs" = some m.cls := findClass_of_methodNamed Bd.named
  have hnm := (name_of_methodNamed Bd.named Bd.method).1
  have X0 : Stand p l e ({ frames := 1, cells := 1, slots := 8192, locals := 15 } : Room) s m #[(.ref a1), (.int p1)] below meth c s₁ [] 0 0 := Stand.of_body Bd
  have e0 : s₁.heap = h0 := by rw [← hh, Bd.state]; rfl
  have N0 := Fr.nil n0
  have KP0 : Keep h0 h0 [] := Keep.refl h0 _
  obtain ⟨G, hG⟩ : ∃ G : State, G = s₁.setTop (entryFrame m #[(.ref a1), (.int p1)] 2) := ⟨_, rfl⟩
  have pre0 : ∀ t, Steps p.tables e below (s₁.setTop (mkF m 0 #[.val (.ref a1), .val (.int p1)] [])) t → Steps p.tables e below G t := fun t k => hG ▸ castTop (ef_rm9 m a1 p1) k
  have K1 : ∀ t, Steps p.tables e below (s₁.setTop (mkF m 4 #[.val (.ref a1), .val (.int p1)] [(.ref a1), (.long (8192 : Int64))])) t → Steps p.tables e below G t := by
    intro t k
    refine pre0 t ?_
    show Steps p.tables e below (s₁.setTop (mkF m 0 #[.val (.ref a1), .val (.int p1)] [])) _
    refine X0.ldc2Long hx hown (mvT hZ (hw _ (List.mem_of_getElem? (i := 52) rfl))) (g := (mkF m 0 #[.val (.ref a1), .val (.int p1)] [])) rfl (hb hby d9_0) _ ?_
    show Steps p.tables e below (s₁.setTop (mkF m 3 #[.val (.ref a1), .val (.int p1)] [(.long (8192 : Int64))])) _
    refine XS.aloadN X0.here hx rfl (hb hby d9_3) rfl rfl ?_
    show Steps p.tables e below (s₁.setTop (mkF m 4 #[.val (.ref a1), .val (.int p1)] [(.ref a1), (.long (8192 : Int64))])) _
    exact k
  obtain ⟨cq2, q2, q2'⟩ := E1.cell
  obtain ⟨_, _, ⟨T2, L2, kk2, nn2⟩, -, X2, ⟨Lc2, hQ2, lq2, yq2, zq2⟩, st2⟩ := X0.privateBack hx (y := (⟨"com/example/holdover/holdover/analysis/FixedWidthLongs", "words", "()J"⟩ : MethodName)) hown (mvT hZ (hw _ (List.mem_of_getElem? (i := 38) rfl))) (mvT hZ (hw _ (List.mem_of_getElem? (i := 39) rfl))) (own_selp hZ (hw _ (List.mem_of_getElem? (i := 8) rfl)) (hw _ (List.mem_of_getElem? (i := 40) rfl)) (hw _ (List.mem_of_getElem? (i := 39) rfl)) (by decide)) (Cond.privateMethod_at (mvP hZ (hw _ (List.mem_of_getElem? (i := 40) rfl)) (args := #[]))) (mvT hZ (hw _ (List.mem_of_getElem? (i := 41) rfl))) (by decide) (backOf (W := 2) (rm8 l Z a0 hw [] a1 p2 p3 h0 n0 Z0 F1 F2) hZ (hw _ (List.mem_of_getElem? (i := 41) rfl)) (hw _ (List.mem_of_getElem? (i := 9) rfl)) (by decide) (by decide)) (g := (mkF m 4 #[.val (.ref a1), .val (.int p1)] [(.ref a1), (.long (8192 : Int64))])) rfl (by rw [hml]; rfl) (Steps.refl _) (a := a1) (by rw [e0]; exact q2) q2' (argsL := []) (rest := [(.long (8192 : Int64))]) (lenOf pd_1 rfl) rfl (by show 2 * 0 + _ ≤ _; exact Nat.le_of_eq rfl) (hb hby d9_4) (fun _ _ => ⟨rfl, e0, (by decide : 0 + 0 ≤ _), (by decide : 0 + 0 ≤ _)⟩)
  dsimp only [Pt.U, Pt.locs, Pt.cells, Pt.slots] at X2 lq2 yq2 zq2 st2 hQ2
  subst lq2 yq2 zq2
  obtain ⟨rfl, Nq2, e2⟩ := hQ2
  have N3 := Fr.app N0 Nq2
  have K4 : ∀ t, Steps p.tables e below (T2.setTop (mkF m 7 #[.val (.ref a1), .val (.int p1)] [(.long (((((p2).toInt64 * (p3).toInt64) + (64 : Int64)) - (1 : Int64)) / (64 : Int64))), (.long (8192 : Int64))])) t → Steps p.tables e below G t := fun t k => K1 t (st2.trans k)
  have K5 : ∀ t, Steps p.tables e below (T2.setTop (mkF m 13 #[.val (.ref a1), .val (.int p1)] [(.long ((((((p2).toInt64 * (p3).toInt64) + (64 : Int64)) - (1 : Int64)) / (64 : Int64)) - ((p1.toInt64) <<< ((13 : Int32) &&& 0x3f).toInt64))), (.long (8192 : Int64))])) t → Steps p.tables e below G t := by
    intro t k
    refine K4 t ?_
    show Steps p.tables e below (T2.setTop (mkF m 7 #[.val (.ref a1), .val (.int p1)] [(.long (((((p2).toInt64 * (p3).toInt64) + (64 : Int64)) - (1 : Int64)) / (64 : Int64))), (.long (8192 : Int64))])) _
    refine XS.iloadN X2.here hx rfl (hb hby d9_7) rfl ?_
    show Steps p.tables e below (T2.setTop (mkF m 8 #[.val (.ref a1), .val (.int p1)] [(.int p1), (.long (((((p2).toInt64 * (p3).toInt64) + (64 : Int64)) - (1 : Int64)) / (64 : Int64))), (.long (8192 : Int64))])) _
    refine XS.i2l X2.here hx rfl (hb hby d9_8) rfl ?_
    show Steps p.tables e below (T2.setTop (mkF m 9 #[.val (.ref a1), .val (.int p1)] [(.long (p1.toInt64)), (.long (((((p2).toInt64 * (p3).toInt64) + (64 : Int64)) - (1 : Int64)) / (64 : Int64))), (.long (8192 : Int64))])) _
    refine XS.bipush X2.here hx rfl (hb hby d9_9) ?_
    show Steps p.tables e below (T2.setTop (mkF m 11 #[.val (.ref a1), .val (.int p1)] [(.int (13 : Int32)), (.long (p1.toInt64)), (.long (((((p2).toInt64 * (p3).toInt64) + (64 : Int64)) - (1 : Int64)) / (64 : Int64))), (.long (8192 : Int64))])) _
    refine XS.lshl X2.here hx rfl (hb hby d9_11) rfl ?_
    show Steps p.tables e below (T2.setTop (mkF m 12 #[.val (.ref a1), .val (.int p1)] [(.long ((p1.toInt64) <<< ((13 : Int32) &&& 0x3f).toInt64)), (.long (((((p2).toInt64 * (p3).toInt64) + (64 : Int64)) - (1 : Int64)) / (64 : Int64))), (.long (8192 : Int64))])) _
    refine XS.lsub X2.here hx rfl (hb hby d9_12) rfl ?_
    show Steps p.tables e below (T2.setTop (mkF m 13 #[.val (.ref a1), .val (.int p1)] [(.long ((((((p2).toInt64 * (p3).toInt64) + (64 : Int64)) - (1 : Int64)) / (64 : Int64)) - ((p1.toInt64) <<< ((13 : Int32) &&& 0x3f).toInt64))), (.long (8192 : Int64))])) _
    exact k
  obtain ⟨_, _, ⟨T6, L6, kk6, nn6⟩, -, X6, ⟨Lc6, hQ6, lq6, yq6, zq6⟩, st6⟩ := Jvm.LawKit.callS X2 hx (y := (⟨"java/lang/Math", "min", "(JJ)J"⟩ : MethodName)) hown (mvT hZ (hw _ (List.mem_of_getElem? (i := 53) rfl))) (mvT hZ (hw _ (List.mem_of_getElem? (i := 54) rfl))) (mvT hZ (hw _ (List.mem_of_getElem? (i := 31) rfl))) (mvT hZ (hw _ (List.mem_of_getElem? (i := 55) rfl))) (by decide) (backOf (W := 0) (rm10 l Z a0 hw [] (8192 : Int64) ((((((p2).toInt64 * (p3).toInt64) + (64 : Int64)) - (1 : Int64)) / (64 : Int64)) - ((p1.toInt64) <<< ((13 : Int32) &&& 0x3f).toInt64)) h0 n0 Z0 ) hZ (hw _ (List.mem_of_getElem? (i := 55) rfl)) (hw _ (List.mem_of_getElem? (i := 31) rfl)) (by decide) (by decide)) (g := (mkF m 13 #[.val (.ref a1), .val (.int p1)] [(.long ((((((p2).toInt64 * (p3).toInt64) + (64 : Int64)) - (1 : Int64)) / (64 : Int64)) - ((p1.toInt64) <<< ((13 : Int32) &&& 0x3f).toInt64))), (.long (8192 : Int64))])) rfl (by rw [hml]; rfl) (argsL := [(.long (8192 : Int64)), (.long ((((((p2).toInt64 * (p3).toInt64) + (64 : Int64)) - (1 : Int64)) / (64 : Int64)) - ((p1.toInt64) <<< ((13 : Int32) &&& 0x3f).toInt64)))]) (rest := []) (lenOf pd_2 rfl) rfl (by show 2 * 0 + _ ≤ _; exact Nat.le_of_eq rfl) (hb hby d9_13) (fun _ _ => ⟨rfl, e2, (by decide : 0 + 0 ≤ _), (by decide : 0 + 0 ≤ _)⟩)
  dsimp only [Pt.U, Pt.locs, Pt.cells, Pt.slots] at X6 lq6 yq6 zq6 st6 hQ6
  subst lq6 yq6 zq6
  obtain ⟨rfl, Nq6, e6⟩ := hQ6
  have N7 := Fr.app N3 Nq6
  have K8 : ∀ t, Steps p.tables e below (T6.setTop (mkF m 16 #[.val (.ref a1), .val (.int p1)] [(.long (if ((((((p2).toInt64 * (p3).toInt64) + (64 : Int64)) - (1 : Int64)) / (64 : Int64)) - ((p1.toInt64) <<< ((13 : Int32) &&& 0x3f).toInt64)) < (8192 : Int64) then ((((((p2).toInt64 * (p3).toInt64) + (64 : Int64)) - (1 : Int64)) / (64 : Int64)) - ((p1.toInt64) <<< ((13 : Int32) &&& 0x3f).toInt64)) else (8192 : Int64)))])) t → Steps p.tables e below G t := fun t k => K5 t (st6 _ k)
  obtain ⟨ml, h_ml⟩ : ∃ z : Int64, z = (if ((((((p2).toInt64 * (p3).toInt64) + (64 : Int64)) - (1 : Int64)) / (64 : Int64)) - ((p1.toInt64) <<< ((13 : Int32) &&& 0x3f).toInt64)) < (8192 : Int64) then ((((((p2).toInt64 * (p3).toInt64) + (64 : Int64)) - (1 : Int64)) / (64 : Int64)) - ((p1.toInt64) <<< ((13 : Int32) &&& 0x3f).toInt64)) else (8192 : Int64)) := ⟨_, rfl⟩
  have K9 : ∀ t, Steps p.tables e below (T6.setTop (mkF m 16 #[.val (.ref a1), .val (.int p1)] [(.long ml)])) t → Steps p.tables e below G t := by rw [h_ml]; exact K8
  obtain ⟨hl0, hl8, hle⟩ := own_npl (wv := (((((p2).toInt64 * (p3).toInt64) + (64 : Int64)) - (1 : Int64)) / (64 : Int64))) hwv hnw hi h_ml
  have K10 : ∀ t, Steps p.tables e below (T6.setTop (mkF m 17 #[.val (.ref a1), .val (.int p1)] [(.int (ml.toInt32))])) t → Steps p.tables e below G t := by
    intro t k
    refine K9 t ?_
    show Steps p.tables e below (T6.setTop (mkF m 16 #[.val (.ref a1), .val (.int p1)] [(.long ml)])) _
    refine XS.l2i X6.here hx rfl (hb hby d9_16) rfl ?_
    show Steps p.tables e below (T6.setTop (mkF m 17 #[.val (.ref a1), .val (.int p1)] [(.int (ml.toInt32))])) _
    exact k
  obtain ⟨T11, h11, k11, X11, e11, E11, A11, Ea11, st11⟩ := newPE X6 hx hZ (hw _ (List.mem_of_getElem? (i := 56) rfl)) e6 (g := (mkF m 17 #[.val (.ref a1), .val (.int p1)] [(.int (ml.toInt32))])) rfl (hb hby d9_17) rfl hl0 (cap := 8192) hl8 (by decide) (by decide) (by decide) (ad := "[J") (by decide)
  have K12 : ∀ t, Steps p.tables e below (T11.setTop (mkF m 19 #[.val (.ref a1), .val (.int p1)] [(.ref h0.size)])) t → Steps p.tables e below G t := fun t k => K10 t (st11 t k)
  obtain ⟨fs, hr, hrun, hended, hW, hsame⟩ := X11.leave (v := some (.ref h0.size)) (fun h => by rw [Bd.returns] at h; cases h)
  have KF := K12
  rw [hG] at KF
  refine ⟨_, _, KF _ ?_, hrun, hended, _, _, rfl, ?_, ⟨_, rfl⟩, hW, hsame.mono (by decide) (by decide)⟩
  · show Steps p.tables e below (T11.setTop (mkF m 19 #[.val (.ref a1), .val (.int p1)] [(.ref h0.size)])) _
    exact own_retA X11 hx Bd.returns rfl rfl rfl (hb hby d9_19) hr
  · show Q9 Z p1 nw h0 n0 _ T11.heap _
    rw [e11]
    refine ⟨_, rfl, N7, E11, rfl, ⟨_, A11, by rw [sz_new]; exact hle, fun j hj => ?_⟩, Ea11⟩
    rw [← hle] at hj
    show (Array.replicate _ (defaultValue .long))[j]? = _; rw [Array.getElem?_replicate, if_pos hj]; rfl
def Q3 (Z : State) (a1 : Addr) (p2 : Int32) (q3 : Int64) (h0 : Heap) (n0 : Nat) (v : Option Value) (h : Heap) (L : List Loc) : Prop := ∃ (ps : Addr) (np : Nat) (P : Nat → Addr) (ln : Nat → Nat) (w : Int32) (mk : Int64), v = none ∧ Fr n0 L ∧ own_St Z h n0 a1 ps np P ln w mk (fun _ => 0) ∧ n0 ≤ h.size ∧ (1 ≤ w.toInt ∧ w.toInt ≤ 64) ∧ mk.toBitVec = own_mask w.toNatClampNeg ∧ q3.toBitVec.toNat < 2 ^ w.toNatClampNeg ∧ (w.toNatClampNeg = 1 ∨ 2 ^ (w.toNatClampNeg - 1) ≤ q3.toBitVec.toNat) ∧ own_ok np ln (p2.toNatClampNeg * w.toNatClampNeg)
def Q2 (Z : State) (a1 : Addr) (p2 : Int32) (q3 : Int64) (h0 : Heap) (n0 : Nat) (v : Option Value) (h : Heap) (L : List Loc) : Prop := ∃ (ps : Addr) (np : Nat) (P : Nat → Addr) (ln : Nat → Nat) (w : Int32) (mk : Int64), v = none ∧ Fr n0 L ∧ own_St Z h n0 a1 ps np P ln w mk (fun _ => 0) ∧ n0 ≤ h.size ∧ (1 ≤ w.toInt ∧ w.toInt ≤ 64) ∧ mk.toBitVec = own_mask w.toNatClampNeg ∧ q3.toBitVec.toNat < 2 ^ w.toNatClampNeg ∧ (w.toNatClampNeg = 1 ∨ 2 ^ (w.toNatClampNeg - 1) ≤ q3.toBitVec.toNat) ∧ own_ok np ln (p2.toNatClampNeg * w.toNatClampNeg)
theorem own_wid {r w : Int32} {N : Nat} (h : own_nl6 r N) (hw : w = if (1 : Int32) < (64 : Int32) - r then (64 : Int32) - r else (1 : Int32)) : (1 ≤ w.toInt ∧ w.toInt ≤ 64) ∧ N < 2 ^ w.toNatClampNeg ∧ (w.toNatClampNeg = 1 ∨ 2 ^ (w.toNatClampNeg - 1) ≤ N) := by
  have z : (64 : Int32).toInt = 64 := rfl
  have z1 : (1 : Int32).toInt = 1 := rfl
  have a := c_isub 64 r; have ra := rng32 ((64 : Int32) - r)
  simp only [Int32.lt_iff_toInt_lt] at hw
  rcases h with ⟨u, v⟩ | ⟨c, h1, h2, h3, h4⟩
  · have e : ¬ (1 : Int32).toInt < ((64 : Int32) - r).toInt := by omega
    rw [if_neg e] at hw; subst hw
    exact ⟨by decide, by rw [u]; decide, Or.inl rfl⟩
  · by_cases q : (1 : Int32).toInt < ((64 : Int32) - r).toInt
    · rw [if_pos q] at hw
      have ew : w.toInt = ((c + 1 : Nat) : Int) := by rw [hw]; omega
      have en : w.toNatClampNeg = c + 1 := by simp only [Int32.toNatClampNeg]; omega
      rw [en]; exact ⟨by omega, h4, Or.inr h3⟩
    · rw [if_neg q] at hw; subst hw
      have c0 : c = 0 := by omega
      subst c0
      exact ⟨by decide, h4, Or.inl rfl⟩
theorem own_msk {w : Int32} {mk : Int64} (hw : 1 ≤ w.toInt ∧ w.toInt ≤ 64) (h : mk = (((-1 : Int64)).toUInt64 >>> (((64 : Int32) - w) &&& 0x3f).toInt64.toUInt64).toInt64) : mk.toBitVec = own_mask w.toNatClampNeg := by
  have z : (64 : Int32).toInt = 64 := rfl
  have a := c_isub 64 w; have ra := rng32 ((64 : Int32) - w); have nw := own_nn (show 0 ≤ w.toInt by omega)
  rw [h, own_ushr _ _ (64 - w.toNatClampNeg) (by omega) (by omega)]; rfl
theorem own_nwv {s w : Int32} (hs : 1 ≤ s.toInt) (hw : 1 ≤ w.toInt ∧ w.toInt ≤ 64) (hb : s.toNatClampNeg * w.toNatClampNeg ≤ 1048576) : (((((s).toInt64 * (w).toInt64) + (64 : Int64)) - (1 : Int64)) / (64 : Int64)).toInt = (((s.toNatClampNeg * w.toNatClampNeg + 63) / 64 : Nat) : Int) ∧ (s.toNatClampNeg * w.toNatClampNeg + 63) / 64 ≤ 16384 ∧ 1 ≤ (s.toNatClampNeg * w.toNatClampNeg + 63) / 64 := by
  have e1 := c_i2l s; have e2 := c_i2l w
  have m := c_lmul s.toInt64 w.toInt64; rw [e1, e2] at m
  have r := rng64 (s.toInt64 * w.toInt64)
  have ni := own_nn (show 0 ≤ s.toInt by omega); have nw := own_nn (show 0 ≤ w.toInt by omega)
  have p : s.toInt * w.toInt = ((s.toNatClampNeg * w.toNatClampNeg : Nat) : Int) := by rw [Int.natCast_mul, ni, nw]
  have p1 : 1 * 1 ≤ s.toNatClampNeg * w.toNatClampNeg := Nat.mul_le_mul (by omega) (by omega)
  rw [p] at m
  have z64 : (64 : Int64).toInt = 64 := rfl
  have z1 : (1 : Int64).toInt = 1 := rfl
  have a := c_ladd (s.toInt64 * w.toInt64) 64; have ra := rng64 (s.toInt64 * w.toInt64 + 64)
  have b := c_lsub (s.toInt64 * w.toInt64 + 64) 1; have rb := rng64 (s.toInt64 * w.toInt64 + 64 - 1)
  have e : (s.toInt64 * w.toInt64 + 64 - 1).toInt = ((s.toNatClampNeg * w.toNatClampNeg + 63 : Nat) : Int) := by omega
  have d := (c_ldiv (s.toInt64 * w.toInt64 + 64 - 1) 64 64 rfl (by decide)).1 (by omega)
  exact ⟨by rw [d, e]; omega, by omega, by omega⟩
theorem own_npv {wv : Int64} {nw : Nat} (h : wv.toInt = nw) (hn : nw ≤ 16384) (h1 : 1 ≤ nw) {npv : Int32} (e : npv = (((wv + (8191 : Int64)).toUInt64 >>> ((13 : Int32) &&& 0x3f).toInt64.toUInt64).toInt64).toInt32) : (npv = 1 ∧ nw ≤ 8192) ∨ (npv = 2 ∧ 8192 < nw) := by
  have z : (8191 : Int64).toInt = 8191 := rfl
  have a := c_ladd wv 8191; have ra := rng64 (wv + 8191)
  have q := own_pg (x := wv + (8191 : Int64)) (n := nw + 8191) (by omega) (by omega)
  rw [← e] at q
  by_cases c : nw ≤ 8192
  · exact Or.inl ⟨Int32.toInt_inj.mp (by rw [q]; show ((_ : Nat) : Int) = 1; omega), c⟩
  · exact Or.inr ⟨Int32.toInt_inj.mp (by rw [q]; show ((_ : Nat) : Int) = 2; omega), by omega⟩
theorem own_ok1 {tot : Nat} (h : (tot + 63) / 64 ≤ 8192) : own_ok 1 (fun _ => min 8192 ((tot + 63) / 64 - 8192 * (0 : Int32).toNatClampNeg)) tot := by
  intro n hn; show n / 8192 < 1 ∧ n % 8192 < min 8192 ((tot + 63) / 64 - 8192 * 0); omega
theorem own_ok2 {tot : Nat} (h : 8192 < (tot + 63) / 64) (h2 : (tot + 63) / 64 ≤ 16384) : own_ok 2 (fun q => if q = 0 then min 8192 ((tot + 63) / 64 - 8192 * (0 : Int32).toNatClampNeg) else min 8192 ((tot + 63) / 64 - 8192 * (1 : Int32).toNatClampNeg)) tot := by
  intro n hn
  show n / 8192 < 2 ∧ n % 8192 < (if n / 8192 = 0 then min 8192 ((tot + 63) / 64 - 8192 * 0) else min 8192 ((tot + 63) / 64 - 8192 * 1))
  split <;> omega
theorem d3_0 : decode prog_26_method_2_code 0 = .ok (.aload_n 0, 1) := by decide +kernel
theorem d3_1 : decode prog_26_method_2_code 1 = .ok (.invokespecial 9, 3) := by decide +kernel
theorem d3_4 : decode prog_26_method_2_code 4 = .ok (.aload_n 0, 1) := by decide +kernel
theorem d3_5 : decode prog_26_method_2_code 5 = .ok (.iload_n 1, 1) := by decide +kernel
theorem d3_6 : decode prog_26_method_2_code 6 = .ok (.putfield 14, 3) := by decide +kernel
theorem d3_9 : decode prog_26_method_2_code 9 = .ok (.aload_n 0, 1) := by decide +kernel
theorem d3_10 : decode prog_26_method_2_code 10 = .ok (.iconst 1, 1) := by decide +kernel
theorem d3_11 : decode prog_26_method_2_code 11 = .ok (.bipush 64, 2) := by decide +kernel
theorem d3_13 : decode prog_26_method_2_code 13 = .ok (.lload_n 2, 1) := by decide +kernel
theorem d3_14 : decode prog_26_method_2_code 14 = .ok (.invokestatic 20, 3) := by decide +kernel
theorem d3_17 : decode prog_26_method_2_code 17 = .ok (.isub, 1) := by decide +kernel
theorem d3_18 : decode prog_26_method_2_code 18 = .ok (.invokestatic 24, 3) := by decide +kernel
theorem d3_21 : decode prog_26_method_2_code 21 = .ok (.putfield 30, 3) := by decide +kernel
theorem d3_24 : decode prog_26_method_2_code 24 = .ok (.aload_n 0, 1) := by decide +kernel
theorem d3_25 : decode prog_26_method_2_code 25 = .ok (.ldc2_w 33, 3) := by decide +kernel
theorem d3_28 : decode prog_26_method_2_code 28 = .ok (.bipush 64, 2) := by decide +kernel
theorem d3_30 : decode prog_26_method_2_code 30 = .ok (.aload_n 0, 1) := by decide +kernel
theorem d3_31 : decode prog_26_method_2_code 31 = .ok (.getfield 30, 3) := by decide +kernel
theorem d3_34 : decode prog_26_method_2_code 34 = .ok (.isub, 1) := by decide +kernel
theorem d3_35 : decode prog_26_method_2_code 35 = .ok (.lushr, 1) := by decide +kernel
theorem d3_36 : decode prog_26_method_2_code 36 = .ok (.putfield 35, 3) := by decide +kernel
theorem d3_39 : decode prog_26_method_2_code 39 = .ok (.aload_n 0, 1) := by decide +kernel
theorem d3_40 : decode prog_26_method_2_code 40 = .ok (.aload_n 0, 1) := by decide +kernel
theorem d3_41 : decode prog_26_method_2_code 41 = .ok (.invokevirtual 39, 3) := by decide +kernel
theorem d3_44 : decode prog_26_method_2_code 44 = .ok (.ldc2_w 43, 3) := by decide +kernel
theorem d3_47 : decode prog_26_method_2_code 47 = .ok (.ladd, 1) := by decide +kernel
theorem d3_48 : decode prog_26_method_2_code 48 = .ok (.bipush 13, 2) := by decide +kernel
theorem d3_50 : decode prog_26_method_2_code 50 = .ok (.lushr, 1) := by decide +kernel
theorem d3_51 : decode prog_26_method_2_code 51 = .ok (.l2i, 1) := by decide +kernel
theorem d3_52 : decode prog_26_method_2_code 52 = .ok (.anewarray 45, 3) := by decide +kernel
theorem d3_55 : decode prog_26_method_2_code 55 = .ok (.putfield 47, 3) := by decide +kernel
theorem d3_58 : decode prog_26_method_2_code 58 = .ok (.iconst 0, 1) := by decide +kernel
theorem d3_59 : decode prog_26_method_2_code 59 = .ok (.istore 5, 2) := by decide +kernel
theorem d3_61 : decode prog_26_method_2_code 61 = .ok (.iload 4, 2) := by decide +kernel
theorem d3_63 : decode prog_26_method_2_code 63 = .ok (.ifCond .eq 32, 3) := by decide +kernel
theorem d3_66 : decode prog_26_method_2_code 66 = .ok (.iload 5, 2) := by decide +kernel
theorem d3_68 : decode prog_26_method_2_code 68 = .ok (.aload_n 0, 1) := by decide +kernel
theorem d3_69 : decode prog_26_method_2_code 69 = .ok (.getfield 47, 3) := by decide +kernel
theorem d3_72 : decode prog_26_method_2_code 72 = .ok (.arraylength, 1) := by decide +kernel
theorem d3_73 : decode prog_26_method_2_code 73 = .ok (.if_icmp .ge 22, 3) := by decide +kernel
theorem d3_76 : decode prog_26_method_2_code 76 = .ok (.aload_n 0, 1) := by decide +kernel
theorem d3_77 : decode prog_26_method_2_code 77 = .ok (.getfield 47, 3) := by decide +kernel
theorem d3_80 : decode prog_26_method_2_code 80 = .ok (.iload 5, 2) := by decide +kernel
theorem d3_82 : decode prog_26_method_2_code 82 = .ok (.aload_n 0, 1) := by decide +kernel
theorem d3_83 : decode prog_26_method_2_code 83 = .ok (.iload 5, 2) := by decide +kernel
theorem d3_85 : decode prog_26_method_2_code 85 = .ok (.invokevirtual 51, 3) := by decide +kernel
theorem d3_88 : decode prog_26_method_2_code 88 = .ok (.aastore, 1) := by decide +kernel
theorem d3_89 : decode prog_26_method_2_code 89 = .ok (.iinc 5 1, 3) := by decide +kernel
theorem d3_92 : decode prog_26_method_2_code 92 = .ok (.goto (-31), 3) := by decide +kernel
theorem d3_95 : decode prog_26_method_2_code 95 = .ok (.return_, 1) := by decide +kernel
theorem pd_3 : parseMethodDescriptor "(J)I" = some ⟨[.long], some .int⟩ := by decide +kernel
theorem pd_4 : parseMethodDescriptor "(II)I" = some ⟨[.int, .int], some .int⟩ := by decide +kernel
theorem pd_5 : parseMethodDescriptor "(I)[J" = some ⟨[.int], some (.array .long)⟩ := by decide +kernel
theorem ef_rm3 (m : MethodId) (x0 : Addr) (x1 : Int32) (x2 : Int64) : entryFrame m #[(.ref x0), (.int x1), (.long x2), (.int (1 : Int32))] 6 = mkF m 0 #[.val (.ref x0), .val (.int x1), .val (.long x2), .second, .val (.int (1 : Int32)), .unset] [] := by first | (simp [entryFrame, mkF, argsToLocals, Value.category]; done) | rfl
set_option maxRecDepth 65536 in
set_option maxHeartbeats 40000000 in
theorem rm3 (l : Launch) (Z : State) (a0 : Array Value) (hw : ∀ d ∈ tables_1, d.before a0 Z = true) (ws : List Jvm.Cond) (a1 : Addr) (p2 : Int32) (q3 : Int64) (h0 : Heap) (n0 : Nat) (Z0 : n0 ≤ h0.size) (E1 : Exa Z h0 a1 "com/example/holdover/holdover/analysis/FixedWidthLongs") (F0 : Fld Z h0 a1 "com/example/holdover/holdover/analysis/FixedWidthLongs" "size" "I" (.int (0 : Int32))) (F1 : Fld Z h0 a1 "com/example/holdover/holdover/analysis/FixedWidthLongs" "width" "I" (.int (0 : Int32))) (F2 : Fld Z h0 a1 "com/example/holdover/holdover/analysis/FixedWidthLongs" "mask" "J" (.long (0 : Int64))) (F3 : Fld Z h0 a1 "com/example/holdover/holdover/analysis/FixedWidthLongs" "pages" "[[J" .null) (g1 : n0 ≤ a1) (hp2 : 1 ≤ p2.toInt) (hbb : ∀ w : Nat, 1 ≤ w → w ≤ 64 → (w = 1 ∨ 2 ^ (w - 1) ≤ q3.toBitVec.toNat) → p2.toNatClampNeg * w ≤ 1048576) :
    MetFree l (⟨"com/example/holdover/holdover/analysis/FixedWidthLongs", "<init>", "(IJZ)V"⟩ : MethodName) (head1 (Jvm.Cond.code (⟨"com/example/holdover/holdover/analysis/FixedWidthLongs", "<init>", "(IJZ)V"⟩ : MethodName) prog_26_method_2_code 6 none :: ws) ({ frames := 2, cells := 3, slots := 16386, locals := 31 } : Room)) (fun a U => a = #[(.ref a1), (.int p2), (.long q3), (.int (1 : Int32))] ∧ Z.Warmed39 U.vm ∧ U.heap = h0) (fun _ _ _ _ _ => True) (fun _ U o U' => ∃ v L, o = .returned v ∧ Q3 Z a1 p2 q3 h0 n0 v U'.heap L ∧ FrameEnd U o U' L ({ frames := 2, cells := 3, slots := 16386, locals := 31 } : Room).cells ({ frames := 2, cells := 3, slots := 16386, locals := 31 } : Room).slots) := by
  refine MetFree.of_bodySF (plainFor_of_name pn_com_example_holdover_holdover_analysis_FixedWidthLongs) hisR ?_
  intro p e s m args below meth c s₁ Bd hml0 hP hK
  obtain ⟨rfl, hZ, hh⟩ := hP
  have hx := Bd.exec
  have hby := Bd.bytes
  have hml : c.maxLocals = 6 := hml0
  have hown : s.vm.findClass "com/example/holdover/holdover/analysis/FixedWidthLongs" = some m.cls := findClass_of_methodNamed Bd.named
  have hnm := (name_of_methodNamed Bd.named Bd.method).1
  have X0 : Stand p l e ({ frames := 2, cells := 3, slots := 16386, locals := 31 } : Room) s m #[(.ref a1), (.int p2), (.long q3), (.int (1 : Int32))] below meth c s₁ [] 0 0 := Stand.of_body Bd
  have e0 : s₁.heap = h0 := by rw [← hh, Bd.state]; rfl
  have N0 := Fr.nil n0
  have KP0 : Keep h0 h0 [a1] := Keep.refl h0 _
  obtain ⟨G, hG⟩ : ∃ G : State, G = s₁.setTop (entryFrame m #[(.ref a1), (.int p2), (.long q3), (.int (1 : Int32))] 6) := ⟨_, rfl⟩
  have pre0 : ∀ t, Steps p.tables e below (s₁.setTop (mkF m 0 #[.val (.ref a1), .val (.int p2), .val (.long q3), .second, .val (.int (1 : Int32)), .unset] [])) t → Steps p.tables e below G t := fun t k => hG ▸ castTop (ef_rm3 m a1 p2 q3) k
  have K1 : ∀ t, Steps p.tables e below (s₁.setTop (mkF m 1 #[.val (.ref a1), .val (.int p2), .val (.long q3), .second, .val (.int (1 : Int32)), .unset] [(.ref a1)])) t → Steps p.tables e below G t := by
    intro t k
    refine pre0 t ?_
    show Steps p.tables e below (s₁.setTop (mkF m 0 #[.val (.ref a1), .val (.int p2), .val (.long q3), .second, .val (.int (1 : Int32)), .unset] [])) _
    refine XS.aloadN X0.here hx rfl (hb hby d3_0) rfl rfl ?_
    show Steps p.tables e below (s₁.setTop (mkF m 1 #[.val (.ref a1), .val (.int p2), .val (.long q3), .second, .val (.int (1 : Int32)), .unset] [(.ref a1)])) _
    exact k
  obtain ⟨T2, X2, e2, st2⟩ := initO X0 hx hZ hown (hw _ (List.mem_of_getElem? (i := 16) rfl)) (hw _ (List.mem_of_getElem? (i := 17) rfl)) (hw _ (List.mem_of_getElem? (i := 18) rfl)) e0 (g := (mkF m 1 #[.val (.ref a1), .val (.int p2), .val (.long q3), .second, .val (.int (1 : Int32)), .unset] [(.ref a1)])) rfl (by rw [hml]; rfl) rfl (hb hby d3_1) (by decide) (W := 0) (by show 2 * 0 + _ ≤ _; exact Nat.le_of_eq rfl) (by decide)
  have K3 : ∀ t, Steps p.tables e below (T2.setTop (mkF m 4 #[.val (.ref a1), .val (.int p2), .val (.long q3), .second, .val (.int (1 : Int32)), .unset] [])) t → Steps p.tables e below G t := fun t k => K1 t (st2 t k)
  have K4 : ∀ t, Steps p.tables e below (T2.setTop (mkF m 6 #[.val (.ref a1), .val (.int p2), .val (.long q3), .second, .val (.int (1 : Int32)), .unset] [(.int p2), (.ref a1)])) t → Steps p.tables e below G t := by
    intro t k
    refine K3 t ?_
    show Steps p.tables e below (T2.setTop (mkF m 4 #[.val (.ref a1), .val (.int p2), .val (.long q3), .second, .val (.int (1 : Int32)), .unset] [])) _
    refine XS.aloadN X2.here hx rfl (hb hby d3_4) rfl rfl ?_
    show Steps p.tables e below (T2.setTop (mkF m 5 #[.val (.ref a1), .val (.int p2), .val (.long q3), .second, .val (.int (1 : Int32)), .unset] [(.ref a1)])) _
    refine XS.iloadN X2.here hx rfl (hb hby d3_5) rfl ?_
    show Steps p.tables e below (T2.setTop (mkF m 6 #[.val (.ref a1), .val (.int p2), .val (.long q3), .second, .val (.int (1 : Int32)), .unset] [(.int p2), (.ref a1)])) _
    exact k
  obtain ⟨T5, h5, X5, e5, W5, st5⟩ := putF X2 hx hZ hown (host := "") (Or.inl (hw _ (List.mem_of_getElem? (i := 19) rfl))) Via.refl e2 F0 E1 (Or.inr ⟨(hw _ (List.mem_of_getElem? (i := 20) rfl)), rfl, hnm⟩) (hw _ (List.mem_of_getElem? (i := 8) rfl)) (ty := .int) (by decide) rfl rfl (g := (mkF m 6 #[.val (.ref a1), .val (.int p2), .val (.long q3), .second, .val (.int (1 : Int32)), .unset] [(.int p2), (.ref a1)])) rfl rfl (hb hby d3_6)
  have K6 : ∀ t, Steps p.tables e below (T5.setTop (mkF m 9 #[.val (.ref a1), .val (.int p2), .val (.long q3), .second, .val (.int (1 : Int32)), .unset] [])) t → Steps p.tables e below G t := fun t k => K4 t (st5 t k)
  have f7 := E1.wr W5
  have f8 := F0.same W5
  have f9 := F1.other W5 (Or.inr (slot_ne (Or.inr (hw _ (List.mem_of_getElem? (i := 34) rfl))) (Or.inr (hw _ (List.mem_of_getElem? (i := 20) rfl))) (by decide) (t := .int) (t' := .int) (by decide) (by decide)))
  have f10 := F2.other W5 (Or.inr (slot_ne (Or.inr (hw _ (List.mem_of_getElem? (i := 37) rfl))) (Or.inr (hw _ (List.mem_of_getElem? (i := 20) rfl))) (by decide) (t := .long) (t' := .int) (by decide) (by decide)))
  have f11 := F3.other W5 (Or.inr (slot_ne (Or.inr (hw _ (List.mem_of_getElem? (i := 47) rfl))) (Or.inr (hw _ (List.mem_of_getElem? (i := 20) rfl))) (by decide) (t := (.array (.array .long))) (t' := .int) (by decide) (by decide)))
  have Z12 : n0 ≤ h5.size := Nat.le_trans Z0 (Keep.of_wr W5).1
  have KP13 : Keep h0 h5 [a1] := KP0.wr W5 (Or.inl (List.mem_of_getElem? (i := 0) rfl))
  have N14 := Fr.snoc X5 N0 g1
  have K15 : ∀ t, Steps p.tables e below (T5.setTop (mkF m 14 #[.val (.ref a1), .val (.int p2), .val (.long q3), .second, .val (.int (1 : Int32)), .unset] [(.long q3), (.int (64 : Int32)), (.int (1 : Int32)), (.ref a1)])) t → Steps p.tables e below G t := by
    intro t k
    refine K6 t ?_
    show Steps p.tables e below (T5.setTop (mkF m 9 #[.val (.ref a1), .val (.int p2), .val (.long q3), .second, .val (.int (1 : Int32)), .unset] [])) _
    refine XS.aloadN X5.here hx rfl (hb hby d3_9) rfl rfl ?_
    show Steps p.tables e below (T5.setTop (mkF m 10 #[.val (.ref a1), .val (.int p2), .val (.long q3), .second, .val (.int (1 : Int32)), .unset] [(.ref a1)])) _
    refine XS.iconst X5.here hx rfl (hb hby d3_10) ?_
    show Steps p.tables e below (T5.setTop (mkF m 11 #[.val (.ref a1), .val (.int p2), .val (.long q3), .second, .val (.int (1 : Int32)), .unset] [(.int (1 : Int32)), (.ref a1)])) _
    refine XS.bipush X5.here hx rfl (hb hby d3_11) ?_
    show Steps p.tables e below (T5.setTop (mkF m 13 #[.val (.ref a1), .val (.int p2), .val (.long q3), .second, .val (.int (1 : Int32)), .unset] [(.int (64 : Int32)), (.int (1 : Int32)), (.ref a1)])) _
    refine XS.lloadN X5.here hx rfl (hb hby d3_13) rfl ?_
    show Steps p.tables e below (T5.setTop (mkF m 14 #[.val (.ref a1), .val (.int p2), .val (.long q3), .second, .val (.int (1 : Int32)), .unset] [(.long q3), (.int (64 : Int32)), (.int (1 : Int32)), (.ref a1)])) _
    exact k
  obtain ⟨_, _, ⟨T16, L16, kk16, nn16⟩, -, X16, ⟨Lc16, hQ16, lq16, yq16, zq16⟩, st16⟩ := Jvm.LawKit.callS X5 hx (y := (⟨"java/lang/Long", "numberOfLeadingZeros", "(J)I"⟩ : MethodName)) hown (mvT hZ (hw _ (List.mem_of_getElem? (i := 21) rfl))) (mvT hZ (hw _ (List.mem_of_getElem? (i := 22) rfl))) (mvT hZ (hw _ (List.mem_of_getElem? (i := 23) rfl))) (mvT hZ (hw _ (List.mem_of_getElem? (i := 24) rfl))) (by decide) (backOf (W := 3) (rm5 l Z a0 hw [] q3 h5 n0 Z12) hZ (hw _ (List.mem_of_getElem? (i := 24) rfl)) (hw _ (List.mem_of_getElem? (i := 23) rfl)) (by decide) (by decide)) (g := (mkF m 14 #[.val (.ref a1), .val (.int p2), .val (.long q3), .second, .val (.int (1 : Int32)), .unset] [(.long q3), (.int (64 : Int32)), (.int (1 : Int32)), (.ref a1)])) rfl (by rw [hml]; rfl) (argsL := [(.long q3)]) (rest := [(.int (64 : Int32)), (.int (1 : Int32)), (.ref a1)]) (lenOf pd_3 rfl) rfl (by show 2 * 0 + _ ≤ _; exact Nat.le_of_eq rfl) (hb hby d3_14) (fun _ _ => ⟨rfl, e5, (by decide : 0 + 0 ≤ _), (by decide : 0 + 0 ≤ _)⟩)
  dsimp only [Pt.U, Pt.locs, Pt.cells, Pt.slots] at X16 lq16 yq16 zq16 st16 hQ16
  subst lq16 yq16 zq16
  obtain ⟨r16, rfl, Nq16, e16, hr16⟩ := hQ16
  have N17 := Fr.app N14 Nq16
  have K18 : ∀ t, Steps p.tables e below (T16.setTop (mkF m 17 #[.val (.ref a1), .val (.int p2), .val (.long q3), .second, .val (.int (1 : Int32)), .unset] [(.int r16), (.int (64 : Int32)), (.int (1 : Int32)), (.ref a1)])) t → Steps p.tables e below G t := fun t k => K15 t (st16 _ k)
  have K19 : ∀ t, Steps p.tables e below (T16.setTop (mkF m 18 #[.val (.ref a1), .val (.int p2), .val (.long q3), .second, .val (.int (1 : Int32)), .unset] [(.int ((64 : Int32) - r16)), (.int (1 : Int32)), (.ref a1)])) t → Steps p.tables e below G t := by
    intro t k
    refine K18 t ?_
    show Steps p.tables e below (T16.setTop (mkF m 17 #[.val (.ref a1), .val (.int p2), .val (.long q3), .second, .val (.int (1 : Int32)), .unset] [(.int r16), (.int (64 : Int32)), (.int (1 : Int32)), (.ref a1)])) _
    refine XS.isub X16.here hx rfl (hb hby d3_17) rfl ?_
    show Steps p.tables e below (T16.setTop (mkF m 18 #[.val (.ref a1), .val (.int p2), .val (.long q3), .second, .val (.int (1 : Int32)), .unset] [(.int ((64 : Int32) - r16)), (.int (1 : Int32)), (.ref a1)])) _
    exact k
  obtain ⟨_, _, ⟨T20, L20, kk20, nn20⟩, -, X20, ⟨Lc20, hQ20, lq20, yq20, zq20⟩, st20⟩ := Jvm.LawKit.callS X16 hx (y := (⟨"java/lang/Math", "max", "(II)I"⟩ : MethodName)) hown (mvT hZ (hw _ (List.mem_of_getElem? (i := 29) rfl))) (mvT hZ (hw _ (List.mem_of_getElem? (i := 30) rfl))) (mvT hZ (hw _ (List.mem_of_getElem? (i := 31) rfl))) (mvT hZ (hw _ (List.mem_of_getElem? (i := 32) rfl))) (by decide) (backOf (W := 1) (rm7 l Z a0 hw [] (1 : Int32) ((64 : Int32) - r16) h5 n0 Z12 ) hZ (hw _ (List.mem_of_getElem? (i := 32) rfl)) (hw _ (List.mem_of_getElem? (i := 31) rfl)) (by decide) (by decide)) (g := (mkF m 18 #[.val (.ref a1), .val (.int p2), .val (.long q3), .second, .val (.int (1 : Int32)), .unset] [(.int ((64 : Int32) - r16)), (.int (1 : Int32)), (.ref a1)])) rfl (by rw [hml]; rfl) (argsL := [(.int (1 : Int32)), (.int ((64 : Int32) - r16))]) (rest := [(.ref a1)]) (lenOf pd_4 rfl) rfl (by show 2 * 0 + _ ≤ _; exact Nat.le_of_eq rfl) (hb hby d3_18) (fun _ _ => ⟨rfl, e16, (by decide : 0 + 0 ≤ _), (by decide : 0 + 0 ≤ _)⟩)
  dsimp only [Pt.U, Pt.locs, Pt.cells, Pt.slots] at X20 lq20 yq20 zq20 st20 hQ20
  subst lq20 yq20 zq20
  obtain ⟨rfl, Nq20, e20⟩ := hQ20
  have N21 := Fr.app N17 Nq20
  have K22 : ∀ t, Steps p.tables e below (T20.setTop (mkF m 21 #[.val (.ref a1), .val (.int p2), .val (.long q3), .second, .val (.int (1 : Int32)), .unset] [(.int (if (1 : Int32) < ((64 : Int32) - r16) then ((64 : Int32) - r16) else (1 : Int32))), (.ref a1)])) t → Steps p.tables e below G t := fun t k => K19 t (st20 _ k)
  obtain ⟨wv, h_wv⟩ : ∃ z : Int32, z = (if (1 : Int32) < ((64 : Int32) - r16) then ((64 : Int32) - r16) else (1 : Int32)) := ⟨_, rfl⟩
  have K23 : ∀ t, Steps p.tables e below (T20.setTop (mkF m 21 #[.val (.ref a1), .val (.int p2), .val (.long q3), .second, .val (.int (1 : Int32)), .unset] [(.int wv), (.ref a1)])) t → Steps p.tables e below G t := by rw [h_wv]; exact K22
  obtain ⟨hwd, hN1, hN2⟩ := own_wid hr16 h_wv
  have hbw := hbb wv.toNatClampNeg (by have := own_nn (show 0 ≤ wv.toInt by omega); omega) (by have := own_nn (show 0 ≤ wv.toInt by omega); omega) hN2
  obtain ⟨hwv0, hnw, hnw1⟩ := own_nwv hp2 hwd hbw
  obtain ⟨nw, e_nw⟩ : ∃ z : Nat, z = (p2.toNatClampNeg * wv.toNatClampNeg + 63) / 64 := ⟨_, rfl⟩
  rw [← e_nw] at hnw hnw1 hwv0
  have hwv : (((((p2).toInt64 * (wv).toInt64) + (64 : Int64)) - (1 : Int64)) / (64 : Int64)).toInt = nw := hwv0
  obtain ⟨T24, h24, X24, e24, W24, st24⟩ := putF X20 hx hZ hown (host := "") (Or.inl (hw _ (List.mem_of_getElem? (i := 33) rfl))) Via.refl e20 f9 f7 (Or.inr ⟨(hw _ (List.mem_of_getElem? (i := 34) rfl)), rfl, hnm⟩) (hw _ (List.mem_of_getElem? (i := 8) rfl)) (ty := .int) (by decide) rfl rfl (g := (mkF m 21 #[.val (.ref a1), .val (.int p2), .val (.long q3), .second, .val (.int (1 : Int32)), .unset] [(.int wv), (.ref a1)])) rfl rfl (hb hby d3_21)
  have K25 : ∀ t, Steps p.tables e below (T24.setTop (mkF m 24 #[.val (.ref a1), .val (.int p2), .val (.long q3), .second, .val (.int (1 : Int32)), .unset] [])) t → Steps p.tables e below G t := fun t k => K23 t (st24 t k)
  have f26 := f7.wr W24
  have f27 := f8.other W24 (Or.inr (slot_ne (Or.inr (hw _ (List.mem_of_getElem? (i := 20) rfl))) (Or.inr (hw _ (List.mem_of_getElem? (i := 34) rfl))) (by decide) (t := .int) (t' := .int) (by decide) (by decide)))
  have f28 := f9.same W24
  have f29 := f10.other W24 (Or.inr (slot_ne (Or.inr (hw _ (List.mem_of_getElem? (i := 37) rfl))) (Or.inr (hw _ (List.mem_of_getElem? (i := 34) rfl))) (by decide) (t := .long) (t' := .int) (by decide) (by decide)))
  have f30 := f11.other W24 (Or.inr (slot_ne (Or.inr (hw _ (List.mem_of_getElem? (i := 47) rfl))) (Or.inr (hw _ (List.mem_of_getElem? (i := 34) rfl))) (by decide) (t := (.array (.array .long))) (t' := .int) (by decide) (by decide)))
  have Z31 : n0 ≤ h24.size := Nat.le_trans Z12 (Keep.of_wr W24).1
  have KP32 : Keep h0 h24 [a1] := KP13.wr W24 (Or.inl (List.mem_of_getElem? (i := 0) rfl))
  have N33 := Fr.snoc X24 N21 g1
  have K34 : ∀ t, Steps p.tables e below (T24.setTop (mkF m 31 #[.val (.ref a1), .val (.int p2), .val (.long q3), .second, .val (.int (1 : Int32)), .unset] [(.ref a1), (.int (64 : Int32)), (.long (-1 : Int64)), (.ref a1)])) t → Steps p.tables e below G t := by
    intro t k
    refine K25 t ?_
    show Steps p.tables e below (T24.setTop (mkF m 24 #[.val (.ref a1), .val (.int p2), .val (.long q3), .second, .val (.int (1 : Int32)), .unset] [])) _
    refine XS.aloadN X24.here hx rfl (hb hby d3_24) rfl rfl ?_
    show Steps p.tables e below (T24.setTop (mkF m 25 #[.val (.ref a1), .val (.int p2), .val (.long q3), .second, .val (.int (1 : Int32)), .unset] [(.ref a1)])) _
    refine X24.ldc2Long hx hown (mvT hZ (hw _ (List.mem_of_getElem? (i := 35) rfl))) (g := (mkF m 25 #[.val (.ref a1), .val (.int p2), .val (.long q3), .second, .val (.int (1 : Int32)), .unset] [(.ref a1)])) rfl (hb hby d3_25) _ ?_
    show Steps p.tables e below (T24.setTop (mkF m 28 #[.val (.ref a1), .val (.int p2), .val (.long q3), .second, .val (.int (1 : Int32)), .unset] [(.long (-1 : Int64)), (.ref a1)])) _
    refine XS.bipush X24.here hx rfl (hb hby d3_28) ?_
    show Steps p.tables e below (T24.setTop (mkF m 30 #[.val (.ref a1), .val (.int p2), .val (.long q3), .second, .val (.int (1 : Int32)), .unset] [(.int (64 : Int32)), (.long (-1 : Int64)), (.ref a1)])) _
    refine XS.aloadN X24.here hx rfl (hb hby d3_30) rfl rfl ?_
    show Steps p.tables e below (T24.setTop (mkF m 31 #[.val (.ref a1), .val (.int p2), .val (.long q3), .second, .val (.int (1 : Int32)), .unset] [(.ref a1), (.int (64 : Int32)), (.long (-1 : Int64)), (.ref a1)])) _
    exact k
  obtain ⟨T35, X35, e35, st35⟩ := getF X24 hx hZ hown (host := "") (Or.inl (hw _ (List.mem_of_getElem? (i := 33) rfl))) Via.refl e24 f28 (g := (mkF m 31 #[.val (.ref a1), .val (.int p2), .val (.long q3), .second, .val (.int (1 : Int32)), .unset] [(.ref a1), (.int (64 : Int32)), (.long (-1 : Int64)), (.ref a1)])) rfl rfl (hb hby d3_31)
  have K36 : ∀ t, Steps p.tables e below (T35.setTop (mkF m 34 #[.val (.ref a1), .val (.int p2), .val (.long q3), .second, .val (.int (1 : Int32)), .unset] [(.int wv), (.int (64 : Int32)), (.long (-1 : Int64)), (.ref a1)])) t → Steps p.tables e below G t := fun t k => K34 t (st35 t k)
  have K37 : ∀ t, Steps p.tables e below (T35.setTop (mkF m 36 #[.val (.ref a1), .val (.int p2), .val (.long q3), .second, .val (.int (1 : Int32)), .unset] [(.long (((-1 : Int64).toUInt64 >>> (((64 : Int32) - wv) &&& 0x3f).toInt64.toUInt64).toInt64)), (.ref a1)])) t → Steps p.tables e below G t := by
    intro t k
    refine K36 t ?_
    show Steps p.tables e below (T35.setTop (mkF m 34 #[.val (.ref a1), .val (.int p2), .val (.long q3), .second, .val (.int (1 : Int32)), .unset] [(.int wv), (.int (64 : Int32)), (.long (-1 : Int64)), (.ref a1)])) _
    refine XS.isub X35.here hx rfl (hb hby d3_34) rfl ?_
    show Steps p.tables e below (T35.setTop (mkF m 35 #[.val (.ref a1), .val (.int p2), .val (.long q3), .second, .val (.int (1 : Int32)), .unset] [(.int ((64 : Int32) - wv)), (.long (-1 : Int64)), (.ref a1)])) _
    refine XS.lushr X35.here hx rfl (hb hby d3_35) rfl ?_
    show Steps p.tables e below (T35.setTop (mkF m 36 #[.val (.ref a1), .val (.int p2), .val (.long q3), .second, .val (.int (1 : Int32)), .unset] [(.long (((-1 : Int64).toUInt64 >>> (((64 : Int32) - wv) &&& 0x3f).toInt64.toUInt64).toInt64)), (.ref a1)])) _
    exact k
  obtain ⟨mk, h_mk⟩ : ∃ z : Int64, z = (((-1 : Int64).toUInt64 >>> (((64 : Int32) - wv) &&& 0x3f).toInt64.toUInt64).toInt64) := ⟨_, rfl⟩
  have K38 : ∀ t, Steps p.tables e below (T35.setTop (mkF m 36 #[.val (.ref a1), .val (.int p2), .val (.long q3), .second, .val (.int (1 : Int32)), .unset] [(.long mk), (.ref a1)])) t → Steps p.tables e below G t := by rw [h_mk]; exact K37
  have hm := own_msk hwd h_mk
  obtain ⟨T39, h39, X39, e39, W39, st39⟩ := putF X35 hx hZ hown (host := "") (Or.inl (hw _ (List.mem_of_getElem? (i := 36) rfl))) Via.refl e35 f29 f26 (Or.inr ⟨(hw _ (List.mem_of_getElem? (i := 37) rfl)), rfl, hnm⟩) (hw _ (List.mem_of_getElem? (i := 8) rfl)) (ty := .long) (by decide) rfl rfl (g := (mkF m 36 #[.val (.ref a1), .val (.int p2), .val (.long q3), .second, .val (.int (1 : Int32)), .unset] [(.long mk), (.ref a1)])) rfl rfl (hb hby d3_36)
  have K40 : ∀ t, Steps p.tables e below (T39.setTop (mkF m 39 #[.val (.ref a1), .val (.int p2), .val (.long q3), .second, .val (.int (1 : Int32)), .unset] [])) t → Steps p.tables e below G t := fun t k => K38 t (st39 t k)
  have f41 := f26.wr W39
  have f42 := f27.other W39 (Or.inr (slot_ne (Or.inr (hw _ (List.mem_of_getElem? (i := 20) rfl))) (Or.inr (hw _ (List.mem_of_getElem? (i := 37) rfl))) (by decide) (t := .int) (t' := .long) (by decide) (by decide)))
  have f43 := f28.other W39 (Or.inr (slot_ne (Or.inr (hw _ (List.mem_of_getElem? (i := 34) rfl))) (Or.inr (hw _ (List.mem_of_getElem? (i := 37) rfl))) (by decide) (t := .int) (t' := .long) (by decide) (by decide)))
  have f44 := f29.same W39
  have f45 := f30.other W39 (Or.inr (slot_ne (Or.inr (hw _ (List.mem_of_getElem? (i := 47) rfl))) (Or.inr (hw _ (List.mem_of_getElem? (i := 37) rfl))) (by decide) (t := (.array (.array .long))) (t' := .long) (by decide) (by decide)))
  have Z46 : n0 ≤ h39.size := Nat.le_trans Z31 (Keep.of_wr W39).1
  have KP47 : Keep h0 h39 [a1] := KP32.wr W39 (Or.inl (List.mem_of_getElem? (i := 0) rfl))
  have N48 := Fr.snoc X39 N33 g1
  have K49 : ∀ t, Steps p.tables e below (T39.setTop (mkF m 41 #[.val (.ref a1), .val (.int p2), .val (.long q3), .second, .val (.int (1 : Int32)), .unset] [(.ref a1), (.ref a1)])) t → Steps p.tables e below G t := by
    intro t k
    refine K40 t ?_
    show Steps p.tables e below (T39.setTop (mkF m 39 #[.val (.ref a1), .val (.int p2), .val (.long q3), .second, .val (.int (1 : Int32)), .unset] [])) _
    refine XS.aloadN X39.here hx rfl (hb hby d3_39) rfl rfl ?_
    show Steps p.tables e below (T39.setTop (mkF m 40 #[.val (.ref a1), .val (.int p2), .val (.long q3), .second, .val (.int (1 : Int32)), .unset] [(.ref a1)])) _
    refine XS.aloadN X39.here hx rfl (hb hby d3_40) rfl rfl ?_
    show Steps p.tables e below (T39.setTop (mkF m 41 #[.val (.ref a1), .val (.int p2), .val (.long q3), .second, .val (.int (1 : Int32)), .unset] [(.ref a1), (.ref a1)])) _
    exact k
  obtain ⟨cq50, q50, q50'⟩ := f41.cell
  obtain ⟨_, _, ⟨T50, L50, kk50, nn50⟩, -, X50, ⟨Lc50, hQ50, lq50, yq50, zq50⟩, st50⟩ := X39.privateBack hx (y := (⟨"com/example/holdover/holdover/analysis/FixedWidthLongs", "words", "()J"⟩ : MethodName)) hown (mvT hZ (hw _ (List.mem_of_getElem? (i := 38) rfl))) (mvT hZ (hw _ (List.mem_of_getElem? (i := 39) rfl))) (own_selp hZ (hw _ (List.mem_of_getElem? (i := 8) rfl)) (hw _ (List.mem_of_getElem? (i := 40) rfl)) (hw _ (List.mem_of_getElem? (i := 39) rfl)) (by decide)) (Cond.privateMethod_at (mvP hZ (hw _ (List.mem_of_getElem? (i := 40) rfl)) (args := #[]))) (mvT hZ (hw _ (List.mem_of_getElem? (i := 41) rfl))) (by decide) (backOf (W := 1) (rm8 l Z a0 hw [] a1 p2 wv h39 n0 Z46 f42 f43) hZ (hw _ (List.mem_of_getElem? (i := 41) rfl)) (hw _ (List.mem_of_getElem? (i := 9) rfl)) (by decide) (by decide)) (g := (mkF m 41 #[.val (.ref a1), .val (.int p2), .val (.long q3), .second, .val (.int (1 : Int32)), .unset] [(.ref a1), (.ref a1)])) rfl (by rw [hml]; rfl) (Steps.refl _) (a := a1) (by rw [e39]; exact q50) q50' (argsL := []) (rest := [(.ref a1)]) (lenOf pd_1 rfl) rfl (by show 2 * 0 + _ ≤ _; exact Nat.le_of_eq rfl) (hb hby d3_41) (fun _ _ => ⟨rfl, e39, (by decide : 0 + 0 ≤ _), (by decide : 0 + 0 ≤ _)⟩)
  dsimp only [Pt.U, Pt.locs, Pt.cells, Pt.slots] at X50 lq50 yq50 zq50 st50 hQ50
  subst lq50 yq50 zq50
  obtain ⟨rfl, Nq50, e50⟩ := hQ50
  have N51 := Fr.app N48 Nq50
  have K52 : ∀ t, Steps p.tables e below (T50.setTop (mkF m 44 #[.val (.ref a1), .val (.int p2), .val (.long q3), .second, .val (.int (1 : Int32)), .unset] [(.long (((((p2).toInt64 * (wv).toInt64) + (64 : Int64)) - (1 : Int64)) / (64 : Int64))), (.ref a1)])) t → Steps p.tables e below G t := fun t k => K49 t (st50.trans k)
  have K53 : ∀ t, Steps p.tables e below (T50.setTop (mkF m 52 #[.val (.ref a1), .val (.int p2), .val (.long q3), .second, .val (.int (1 : Int32)), .unset] [(.int (((((((((p2).toInt64 * (wv).toInt64) + (64 : Int64)) - (1 : Int64)) / (64 : Int64)) + (8191 : Int64)).toUInt64 >>> ((13 : Int32) &&& 0x3f).toInt64.toUInt64).toInt64).toInt32)), (.ref a1)])) t → Steps p.tables e below G t := by
    intro t k
    refine K52 t ?_
    show Steps p.tables e below (T50.setTop (mkF m 44 #[.val (.ref a1), .val (.int p2), .val (.long q3), .second, .val (.int (1 : Int32)), .unset] [(.long (((((p2).toInt64 * (wv).toInt64) + (64 : Int64)) - (1 : Int64)) / (64 : Int64))), (.ref a1)])) _
    refine X50.ldc2Long hx hown (mvT hZ (hw _ (List.mem_of_getElem? (i := 43) rfl))) (g := (mkF m 44 #[.val (.ref a1), .val (.int p2), .val (.long q3), .second, .val (.int (1 : Int32)), .unset] [(.long (((((p2).toInt64 * (wv).toInt64) + (64 : Int64)) - (1 : Int64)) / (64 : Int64))), (.ref a1)])) rfl (hb hby d3_44) _ ?_
    show Steps p.tables e below (T50.setTop (mkF m 47 #[.val (.ref a1), .val (.int p2), .val (.long q3), .second, .val (.int (1 : Int32)), .unset] [(.long (8191 : Int64)), (.long (((((p2).toInt64 * (wv).toInt64) + (64 : Int64)) - (1 : Int64)) / (64 : Int64))), (.ref a1)])) _
    refine XS.ladd X50.here hx rfl (hb hby d3_47) rfl ?_
    show Steps p.tables e below (T50.setTop (mkF m 48 #[.val (.ref a1), .val (.int p2), .val (.long q3), .second, .val (.int (1 : Int32)), .unset] [(.long ((((((p2).toInt64 * (wv).toInt64) + (64 : Int64)) - (1 : Int64)) / (64 : Int64)) + (8191 : Int64))), (.ref a1)])) _
    refine XS.bipush X50.here hx rfl (hb hby d3_48) ?_
    show Steps p.tables e below (T50.setTop (mkF m 50 #[.val (.ref a1), .val (.int p2), .val (.long q3), .second, .val (.int (1 : Int32)), .unset] [(.int (13 : Int32)), (.long ((((((p2).toInt64 * (wv).toInt64) + (64 : Int64)) - (1 : Int64)) / (64 : Int64)) + (8191 : Int64))), (.ref a1)])) _
    refine XS.lushr X50.here hx rfl (hb hby d3_50) rfl ?_
    show Steps p.tables e below (T50.setTop (mkF m 51 #[.val (.ref a1), .val (.int p2), .val (.long q3), .second, .val (.int (1 : Int32)), .unset] [(.long ((((((((p2).toInt64 * (wv).toInt64) + (64 : Int64)) - (1 : Int64)) / (64 : Int64)) + (8191 : Int64)).toUInt64 >>> ((13 : Int32) &&& 0x3f).toInt64.toUInt64).toInt64)), (.ref a1)])) _
    refine XS.l2i X50.here hx rfl (hb hby d3_51) rfl ?_
    show Steps p.tables e below (T50.setTop (mkF m 52 #[.val (.ref a1), .val (.int p2), .val (.long q3), .second, .val (.int (1 : Int32)), .unset] [(.int (((((((((p2).toInt64 * (wv).toInt64) + (64 : Int64)) - (1 : Int64)) / (64 : Int64)) + (8191 : Int64)).toUInt64 >>> ((13 : Int32) &&& 0x3f).toInt64.toUInt64).toInt64).toInt32)), (.ref a1)])) _
    exact k
  obtain ⟨npv, h_npv⟩ : ∃ z : Int32, z = (((((((((p2).toInt64 * (wv).toInt64) + (64 : Int64)) - (1 : Int64)) / (64 : Int64)) + (8191 : Int64)).toUInt64 >>> ((13 : Int32) &&& 0x3f).toInt64.toUInt64).toInt64).toInt32) := ⟨_, rfl⟩
  have K54 : ∀ t, Steps p.tables e below (T50.setTop (mkF m 52 #[.val (.ref a1), .val (.int p2), .val (.long q3), .second, .val (.int (1 : Int32)), .unset] [(.int npv), (.ref a1)])) t → Steps p.tables e below G t := by rw [h_npv]; exact K53
  rcases own_npv hwv hnw hnw1 h_npv with ⟨rfl, hnp⟩ | ⟨rfl, hnp⟩
  · obtain ⟨T55, h55, k55, X55, e55, E55, A55, Ea55, O55, st55⟩ := newRA X50 hx hZ hown (ty := .long) (C := "[J") (by decide) (hw _ (List.mem_of_getElem? (i := 44) rfl)) (hw _ (List.mem_of_getElem? (i := 45) rfl)) e50 (g := (mkF m 52 #[.val (.ref a1), .val (.int p2), .val (.long q3), .second, .val (.int (1 : Int32)), .unset] [(.int (1 : Int32)), (.ref a1)])) rfl (hb hby d3_52) rfl (by decide) (cap := 2) (by decide) (by decide) (by decide) (by decide) (ad := "[[J") (by decide)
    obtain ⟨b55, g55⟩ : ∃ z, z = h39.size := ⟨_, rfl⟩
    rw [← g55] at A55 Ea55 st55
    have ne_a1_b55 : a1 ≠ b55 := Nat.ne_of_lt (Nat.lt_of_lt_of_le f41.lt (Nat.le_of_eq g55.symm))
    have g_b55 : n0 ≤ b55 := Nat.le_trans Z46 (Nat.le_of_eq g55.symm)
    have sz_b55 : h0.size ≤ b55 := Nat.le_trans KP47.1 (Nat.le_of_eq g55.symm)
    have f56 := f41.ext E55
    have f57 := f42.ext E55
    have f58 := f43.ext E55
    have f59 := f44.ext E55
    have f60 := f45.ext E55
    have Z61 : n0 ≤ h55.size := Nat.le_trans Z46 E55.1
    have KP62 : Keep h0 h55 [a1] := KP47.ext E55
    have K63 : ∀ t, Steps p.tables e below (T55.setTop (mkF m 55 #[.val (.ref a1), .val (.int p2), .val (.long q3), .second, .val (.int (1 : Int32)), .unset] [(.ref b55), (.ref a1)])) t → Steps p.tables e below G t := fun t k => K54 t (st55 t k)
    have V55 : Arv Z h55 b55 k55 (.array .long) (1 : Int32) [.null] .null := (Arv.new A55 (by decide)).pad (pad_rep [] .null 1)
    obtain ⟨T64, h64, X64, e64, W64, st64⟩ := putF X55 hx hZ hown (host := "") (Or.inl (hw _ (List.mem_of_getElem? (i := 46) rfl))) Via.refl e55 f60 f56 (Or.inr ⟨(hw _ (List.mem_of_getElem? (i := 47) rfl)), rfl, hnm⟩) (hw _ (List.mem_of_getElem? (i := 8) rfl)) (ty := (.array (.array .long))) (by decide) rfl rfl (g := (mkF m 55 #[.val (.ref a1), .val (.int p2), .val (.long q3), .second, .val (.int (1 : Int32)), .unset] [(.ref b55), (.ref a1)])) rfl rfl (hb hby d3_55)
    have K65 : ∀ t, Steps p.tables e below (T64.setTop (mkF m 58 #[.val (.ref a1), .val (.int p2), .val (.long q3), .second, .val (.int (1 : Int32)), .unset] [])) t → Steps p.tables e below G t := fun t k => K63 t (st64 t k)
    have f66 := f56.wr W64
    have f67 := f57.other W64 (Or.inr (slot_ne (Or.inr (hw _ (List.mem_of_getElem? (i := 20) rfl))) (Or.inr (hw _ (List.mem_of_getElem? (i := 47) rfl))) (by decide) (t := .int) (t' := (.array (.array .long))) (by decide) (by decide)))
    have f68 := f58.other W64 (Or.inr (slot_ne (Or.inr (hw _ (List.mem_of_getElem? (i := 34) rfl))) (Or.inr (hw _ (List.mem_of_getElem? (i := 47) rfl))) (by decide) (t := .int) (t' := (.array (.array .long))) (by decide) (by decide)))
    have f69 := f59.other W64 (Or.inr (slot_ne (Or.inr (hw _ (List.mem_of_getElem? (i := 37) rfl))) (Or.inr (hw _ (List.mem_of_getElem? (i := 47) rfl))) (by decide) (t := .long) (t' := (.array (.array .long))) (by decide) (by decide)))
    have f70 := f60.same W64
    have f71 := V55.other W64 (Ne.symm ne_a1_b55)
    have Z72 : n0 ≤ h64.size := Nat.le_trans Z61 (Keep.of_wr W64).1
    have KP73 : Keep h0 h64 [a1] := KP62.wr W64 (Or.inl (List.mem_of_getElem? (i := 0) rfl))
    have N74 := Fr.snoc X64 N51 g1
    have K75 : ∀ t, Steps p.tables e below (T64.setTop (mkF m 69 #[.val (.ref a1), .val (.int p2), .val (.long q3), .second, .val (.int (1 : Int32)), .val (.int (0 : Int32))] [(.ref a1), (.int (0 : Int32))])) t → Steps p.tables e below G t := by
      intro t k
      refine K65 t ?_
      show Steps p.tables e below (T64.setTop (mkF m 58 #[.val (.ref a1), .val (.int p2), .val (.long q3), .second, .val (.int (1 : Int32)), .unset] [])) _
      refine XS.iconst X64.here hx rfl (hb hby d3_58) ?_
      show Steps p.tables e below (T64.setTop (mkF m 59 #[.val (.ref a1), .val (.int p2), .val (.long q3), .second, .val (.int (1 : Int32)), .unset] [(.int (0 : Int32))])) _
      refine XS.istore X64.here hx rfl (hb hby d3_59) rfl (l' := #[.val (.ref a1), .val (.int p2), .val (.long q3), .second, .val (.int (1 : Int32)), .val (.int (0 : Int32))]) rfl ?_
      show Steps p.tables e below (T64.setTop (mkF m 61 #[.val (.ref a1), .val (.int p2), .val (.long q3), .second, .val (.int (1 : Int32)), .val (.int (0 : Int32))] [])) _
      refine XS.iload X64.here hx rfl (hb hby d3_61) rfl ?_
      show Steps p.tables e below (T64.setTop (mkF m 63 #[.val (.ref a1), .val (.int p2), .val (.long q3), .second, .val (.int (1 : Int32)), .val (.int (0 : Int32))] [(.int (1 : Int32))])) _
      refine XS.ifNo X64.here hx rfl (hb hby d3_63) rfl ((if0 _ _).trans (feq (by decide)).1) ?_
      show Steps p.tables e below (T64.setTop (mkF m 66 #[.val (.ref a1), .val (.int p2), .val (.long q3), .second, .val (.int (1 : Int32)), .val (.int (0 : Int32))] [])) _
      refine XS.iload X64.here hx rfl (hb hby d3_66) rfl ?_
      show Steps p.tables e below (T64.setTop (mkF m 68 #[.val (.ref a1), .val (.int p2), .val (.long q3), .second, .val (.int (1 : Int32)), .val (.int (0 : Int32))] [(.int (0 : Int32))])) _
      refine XS.aloadN X64.here hx rfl (hb hby d3_68) rfl rfl ?_
      show Steps p.tables e below (T64.setTop (mkF m 69 #[.val (.ref a1), .val (.int p2), .val (.long q3), .second, .val (.int (1 : Int32)), .val (.int (0 : Int32))] [(.ref a1), (.int (0 : Int32))])) _
      exact k
    obtain ⟨T76, X76, e76, st76⟩ := getF X64 hx hZ hown (host := "") (Or.inl (hw _ (List.mem_of_getElem? (i := 46) rfl))) Via.refl e64 f70 (g := (mkF m 69 #[.val (.ref a1), .val (.int p2), .val (.long q3), .second, .val (.int (1 : Int32)), .val (.int (0 : Int32))] [(.ref a1), (.int (0 : Int32))])) rfl rfl (hb hby d3_69)
    have K77 : ∀ t, Steps p.tables e below (T76.setTop (mkF m 72 #[.val (.ref a1), .val (.int p2), .val (.long q3), .second, .val (.int (1 : Int32)), .val (.int (0 : Int32))] [(.ref b55), (.int (0 : Int32))])) t → Steps p.tables e below G t := fun t k => K75 t (st76 t k)
    obtain ⟨cl78, Ar78, -, S78, M78, -, -⟩ := id f71
    have K79 : ∀ t, Steps p.tables e below (T76.setTop (mkF m 73 #[.val (.ref a1), .val (.int p2), .val (.long q3), .second, .val (.int (1 : Int32)), .val (.int (0 : Int32))] [(.int (1 : Int32)), (.int (0 : Int32))])) t → Steps p.tables e below G t := by
      intro t k
      refine K77 t ?_
      refine X76.arraylength hx (by rw [e76]; exact Ar78.1) (State.isArrayOf_alike hZ.alike Ar78.2.1) (g := (mkF m 72 #[.val (.ref a1), .val (.int p2), .val (.long q3), .second, .val (.int (1 : Int32)), .val (.int (0 : Int32))] [(.ref b55), (.int (0 : Int32))])) rfl rfl (hb hby d3_72) _ ?_
      rw [len_of S78 M78]
      exact k
    have K80 : ∀ t, Steps p.tables e below (T76.setTop (mkF m 77 #[.val (.ref a1), .val (.int p2), .val (.long q3), .second, .val (.int (1 : Int32)), .val (.int (0 : Int32))] [(.ref a1)])) t → Steps p.tables e below G t := by
      intro t k
      refine K79 t ?_
      show Steps p.tables e below (T76.setTop (mkF m 73 #[.val (.ref a1), .val (.int p2), .val (.long q3), .second, .val (.int (1 : Int32)), .val (.int (0 : Int32))] [(.int (1 : Int32)), (.int (0 : Int32))])) _
      refine XS.icmpNo X76.here hx rfl (hb hby d3_73) rfl (tlt (by decide)).2.1 ?_
      show Steps p.tables e below (T76.setTop (mkF m 76 #[.val (.ref a1), .val (.int p2), .val (.long q3), .second, .val (.int (1 : Int32)), .val (.int (0 : Int32))] [])) _
      refine XS.aloadN X76.here hx rfl (hb hby d3_76) rfl rfl ?_
      show Steps p.tables e below (T76.setTop (mkF m 77 #[.val (.ref a1), .val (.int p2), .val (.long q3), .second, .val (.int (1 : Int32)), .val (.int (0 : Int32))] [(.ref a1)])) _
      exact k
    obtain ⟨T81, X81, e81, st81⟩ := getF X76 hx hZ hown (host := "") (Or.inl (hw _ (List.mem_of_getElem? (i := 46) rfl))) Via.refl e76 f70 (g := (mkF m 77 #[.val (.ref a1), .val (.int p2), .val (.long q3), .second, .val (.int (1 : Int32)), .val (.int (0 : Int32))] [(.ref a1)])) rfl rfl (hb hby d3_77)
    have K82 : ∀ t, Steps p.tables e below (T81.setTop (mkF m 80 #[.val (.ref a1), .val (.int p2), .val (.long q3), .second, .val (.int (1 : Int32)), .val (.int (0 : Int32))] [(.ref b55)])) t → Steps p.tables e below G t := fun t k => K80 t (st81 t k)
    have K83 : ∀ t, Steps p.tables e below (T81.setTop (mkF m 85 #[.val (.ref a1), .val (.int p2), .val (.long q3), .second, .val (.int (1 : Int32)), .val (.int (0 : Int32))] [(.int (0 : Int32)), (.ref a1), (.int (0 : Int32)), (.ref b55)])) t → Steps p.tables e below G t := by
      intro t k
      refine K82 t ?_
      show Steps p.tables e below (T81.setTop (mkF m 80 #[.val (.ref a1), .val (.int p2), .val (.long q3), .second, .val (.int (1 : Int32)), .val (.int (0 : Int32))] [(.ref b55)])) _
      refine XS.iload X81.here hx rfl (hb hby d3_80) rfl ?_
      show Steps p.tables e below (T81.setTop (mkF m 82 #[.val (.ref a1), .val (.int p2), .val (.long q3), .second, .val (.int (1 : Int32)), .val (.int (0 : Int32))] [(.int (0 : Int32)), (.ref b55)])) _
      refine XS.aloadN X81.here hx rfl (hb hby d3_82) rfl rfl ?_
      show Steps p.tables e below (T81.setTop (mkF m 83 #[.val (.ref a1), .val (.int p2), .val (.long q3), .second, .val (.int (1 : Int32)), .val (.int (0 : Int32))] [(.ref a1), (.int (0 : Int32)), (.ref b55)])) _
      refine XS.iload X81.here hx rfl (hb hby d3_83) rfl ?_
      show Steps p.tables e below (T81.setTop (mkF m 85 #[.val (.ref a1), .val (.int p2), .val (.long q3), .second, .val (.int (1 : Int32)), .val (.int (0 : Int32))] [(.int (0 : Int32)), (.ref a1), (.int (0 : Int32)), (.ref b55)])) _
      exact k
    obtain ⟨cq84, q84, q84'⟩ := f66.cell
    obtain ⟨_, _, ⟨T84, L84, kk84, nn84⟩, -, X84, ⟨Lc84, hQ84, lq84, yq84, zq84⟩, st84⟩ := X81.privateBack hx (y := (⟨"com/example/holdover/holdover/analysis/FixedWidthLongs", "newPage", "(I)[J"⟩ : MethodName)) hown (mvT hZ (hw _ (List.mem_of_getElem? (i := 48) rfl))) (mvT hZ (hw _ (List.mem_of_getElem? (i := 49) rfl))) (own_selp hZ (hw _ (List.mem_of_getElem? (i := 8) rfl)) (hw _ (List.mem_of_getElem? (i := 50) rfl)) (hw _ (List.mem_of_getElem? (i := 49) rfl)) (by decide)) (Cond.privateMethod_at (mvP hZ (hw _ (List.mem_of_getElem? (i := 50) rfl)) (args := #[]))) (mvT hZ (hw _ (List.mem_of_getElem? (i := 51) rfl))) (by decide) (backOf (W := 2) (rm9 l Z a0 hw [] a1 (0 : Int32) p2 wv nw h64 n0 Z72 f66 f67 f68 hwv hnw ⟨by decide, by show (8192 : Int) * 0 < nw; omega⟩) hZ (hw _ (List.mem_of_getElem? (i := 51) rfl)) (hw _ (List.mem_of_getElem? (i := 9) rfl)) (by decide) (by decide)) (g := (mkF m 85 #[.val (.ref a1), .val (.int p2), .val (.long q3), .second, .val (.int (1 : Int32)), .val (.int (0 : Int32))] [(.int (0 : Int32)), (.ref a1), (.int (0 : Int32)), (.ref b55)])) rfl (by rw [hml]; rfl) (Steps.refl _) (a := a1) (by rw [e81]; exact q84) q84' (argsL := [(.int (0 : Int32))]) (rest := [(.int (0 : Int32)), (.ref b55)]) (lenOf pd_5 rfl) rfl (by show 2 * 0 + _ ≤ _; exact Nat.le_of_eq rfl) (hb hby d3_85) (fun _ _ => ⟨rfl, e81, (by decide : 1 + 1 ≤ _), (by decide : 2 + 8192 ≤ _)⟩)
    dsimp only [Pt.U, Pt.locs, Pt.cells, Pt.slots] at X84 lq84 yq84 zq84 st84 hQ84
    subst lq84 yq84 zq84
    obtain ⟨b84, rfl, Nq84, EX84, eb84, AF84, EA84⟩ := hQ84
    have N85 := Fr.app N74 Nq84
    have ne_a1_b84 : a1 ≠ b84 := Nat.ne_of_lt (Nat.lt_of_lt_of_le f66.lt (Nat.le_of_eq eb84.symm))
    have ne_b55_b84 : b55 ≠ b84 := Nat.ne_of_lt (Nat.lt_of_lt_of_le f71.lt (Nat.le_of_eq eb84.symm))
    have g_b84 : n0 ≤ b84 := Nat.le_trans Z72 (Nat.le_of_eq eb84.symm)
    have f86 := f66.ext EX84
    have f87 := f67.ext EX84
    have f88 := f68.ext EX84
    have f89 := f69.ext EX84
    have f90 := f70.ext EX84
    have f91 := f71.ext EX84
    have Z92 : n0 ≤ T84.heap.size := Nat.le_trans Z72 EX84.1
    have KP93 : Keep h0 T84.heap [a1] := KP73.ext EX84
    have K94 : ∀ t, Steps p.tables e below (T84.setTop (mkF m 88 #[.val (.ref a1), .val (.int p2), .val (.long q3), .second, .val (.int (1 : Int32)), .val (.int (0 : Int32))] [(.ref b84), (.int (0 : Int32)), (.ref b55)])) t → Steps p.tables e below G t := fun t k => K83 t (st84.trans k)
    obtain ⟨cl95, Ar95, q95, S95, M95, Ha95, Ga95⟩ := id f91
    have hin95 : ¬ ((0 : Int32) < 0 ∨ cl95.slots.size ≤ ((0 : Int32)).toNatClampNeg) := inb_of S95 ⟨by decide, by decide⟩
    obtain ⟨T95, h95, X95, e95, W95, st95⟩ := stR X84 hx hZ rfl Ar95 (j := (0 : Int32)) hin95 rfl (Sto.ofVA Ar95 q95 O55 (Ins.self EA84)) (g := (mkF m 88 #[.val (.ref a1), .val (.int p2), .val (.long q3), .second, .val (.int (1 : Int32)), .val (.int (0 : Int32))] [(.ref b84), (.int (0 : Int32)), (.ref b55)])) rfl rfl (hb hby d3_88)
    have V95 : Arv Z h95 b55 k55 (.array .long) (1 : Int32) [(.ref b84)] .null := Arv.set Ar95 q95 S95 M95 Ha95 Ga95 rfl W95 0 rfl (Nat.le_of_ble_eq_true rfl)
    have K96 : ∀ t, Steps p.tables e below (T95.setTop (mkF m 89 #[.val (.ref a1), .val (.int p2), .val (.long q3), .second, .val (.int (1 : Int32)), .val (.int (0 : Int32))] [])) t → Steps p.tables e below G t := fun t k => K94 t (st95 t k)
    have f97 := f86.wr W95
    have f98 := f87.other W95 (Or.inl ne_a1_b55)
    have f99 := f88.other W95 (Or.inl ne_a1_b55)
    have f100 := f89.other W95 (Or.inl ne_a1_b55)
    have f101 := f90.other W95 (Or.inl ne_a1_b55)
    have f102 := own_Af_other AF84 W95 (Ne.symm ne_b55_b84)
    have f103 := EA84.wr W95
    have Z104 : n0 ≤ h95.size := Nat.le_trans Z92 (Keep.of_wr W95).1
    have KP105 : Keep h0 h95 [a1] := KP93.wr W95 (Or.inr sz_b55)
    have N106 := Fr.snoc X95 N85 g_b55
    have K107 : ∀ t, Steps p.tables e below (T95.setTop (mkF m 69 #[.val (.ref a1), .val (.int p2), .val (.long q3), .second, .val (.int (1 : Int32)), .val (.int (1 : Int32))] [(.ref a1), (.int (1 : Int32))])) t → Steps p.tables e below G t := by
      intro t k
      refine K96 t ?_
      show Steps p.tables e below (T95.setTop (mkF m 89 #[.val (.ref a1), .val (.int p2), .val (.long q3), .second, .val (.int (1 : Int32)), .val (.int (0 : Int32))] [])) _
      refine XS.iinc X95.here hx rfl (hb hby d3_89) rfl (l' := #[.val (.ref a1), .val (.int p2), .val (.long q3), .second, .val (.int (1 : Int32)), .val (.int (1 : Int32))]) rfl ?_
      show Steps p.tables e below (T95.setTop (mkF m 92 #[.val (.ref a1), .val (.int p2), .val (.long q3), .second, .val (.int (1 : Int32)), .val (.int (1 : Int32))] [])) _
      refine XS.goto X95.here hx rfl (pc0 := 92) (pc' := 61) rfl (hb hby d3_92) (by decide) (by decide) ?_
      show Steps p.tables e below (T95.setTop (mkF m 61 #[.val (.ref a1), .val (.int p2), .val (.long q3), .second, .val (.int (1 : Int32)), .val (.int (1 : Int32))] [])) _
      refine XS.iload X95.here hx rfl (hb hby d3_61) rfl ?_
      show Steps p.tables e below (T95.setTop (mkF m 63 #[.val (.ref a1), .val (.int p2), .val (.long q3), .second, .val (.int (1 : Int32)), .val (.int (1 : Int32))] [(.int (1 : Int32))])) _
      refine XS.ifNo X95.here hx rfl (hb hby d3_63) rfl ((if0 _ _).trans (feq (by decide)).1) ?_
      show Steps p.tables e below (T95.setTop (mkF m 66 #[.val (.ref a1), .val (.int p2), .val (.long q3), .second, .val (.int (1 : Int32)), .val (.int (1 : Int32))] [])) _
      refine XS.iload X95.here hx rfl (hb hby d3_66) rfl ?_
      show Steps p.tables e below (T95.setTop (mkF m 68 #[.val (.ref a1), .val (.int p2), .val (.long q3), .second, .val (.int (1 : Int32)), .val (.int (1 : Int32))] [(.int (1 : Int32))])) _
      refine XS.aloadN X95.here hx rfl (hb hby d3_68) rfl rfl ?_
      show Steps p.tables e below (T95.setTop (mkF m 69 #[.val (.ref a1), .val (.int p2), .val (.long q3), .second, .val (.int (1 : Int32)), .val (.int (1 : Int32))] [(.ref a1), (.int (1 : Int32))])) _
      exact k
    obtain ⟨T108, X108, e108, st108⟩ := getF X95 hx hZ hown (host := "") (Or.inl (hw _ (List.mem_of_getElem? (i := 46) rfl))) Via.refl e95 f101 (g := (mkF m 69 #[.val (.ref a1), .val (.int p2), .val (.long q3), .second, .val (.int (1 : Int32)), .val (.int (1 : Int32))] [(.ref a1), (.int (1 : Int32))])) rfl rfl (hb hby d3_69)
    have K109 : ∀ t, Steps p.tables e below (T108.setTop (mkF m 72 #[.val (.ref a1), .val (.int p2), .val (.long q3), .second, .val (.int (1 : Int32)), .val (.int (1 : Int32))] [(.ref b55), (.int (1 : Int32))])) t → Steps p.tables e below G t := fun t k => K107 t (st108 t k)
    obtain ⟨cl110, Ar110, -, S110, M110, -, -⟩ := id V95
    have K111 : ∀ t, Steps p.tables e below (T108.setTop (mkF m 73 #[.val (.ref a1), .val (.int p2), .val (.long q3), .second, .val (.int (1 : Int32)), .val (.int (1 : Int32))] [(.int (1 : Int32)), (.int (1 : Int32))])) t → Steps p.tables e below G t := by
      intro t k
      refine K109 t ?_
      refine X108.arraylength hx (by rw [e108]; exact Ar110.1) (State.isArrayOf_alike hZ.alike Ar110.2.1) (g := (mkF m 72 #[.val (.ref a1), .val (.int p2), .val (.long q3), .second, .val (.int (1 : Int32)), .val (.int (1 : Int32))] [(.ref b55), (.int (1 : Int32))])) rfl rfl (hb hby d3_72) _ ?_
      rw [len_of S110 M110]
      exact k
    obtain ⟨fs, hr, hrun, hended, hW, hsame⟩ := X108.leave (v := none) (fun _ => rfl)
    have KF := K111
    rw [hG] at KF
    refine ⟨_, _, KF _ ?_, hrun, hended, _, _, rfl, ?_, ⟨_, rfl⟩, hW, hsame.mono (by decide) (by decide)⟩
    · show Steps p.tables e below (T108.setTop (mkF m 73 #[.val (.ref a1), .val (.int p2), .val (.long q3), .second, .val (.int (1 : Int32)), .val (.int (1 : Int32))] [(.int (1 : Int32)), (.int (1 : Int32))])) _
      refine XS.icmpYes X108.here hx rfl (pc0 := 73) (pc' := 95) rfl (hb hby d3_73) rfl (flt (by decide)).2.1 (by decide) (by decide) ?_
      show Steps p.tables e below (T108.setTop (mkF m 95 #[.val (.ref a1), .val (.int p2), .val (.long q3), .second, .val (.int (1 : Int32)), .val (.int (1 : Int32))] [])) _
      exact X108.returnOut hx Bd.returns (hb hby d3_95) hr
    · show Q3 Z a1 p2 q3 h0 n0 _ T108.heap _
      rw [e108]
      obtain ⟨cz, Az, -, Sz, -, Hz, -⟩ := V95
      refine ⟨b55, 1, fun _ => b84, fun _ => min 8192 ((p2.toNatClampNeg * wv.toNatClampNeg + 63) / 64 - 8192 * (0 : Int32).toNatClampNeg), wv, mk, rfl, N106, ⟨f97, f99, f100, f101, ⟨cz, Az, Sz, fun q hq => ?_⟩, fun q hq => ?_, fun q r hq hr _ => by omega⟩, Z104, hwd, hm, hN1, hN2, own_ok1 (by rw [← e_nw]; exact hnp)⟩
      · obtain rfl : q = 0 := by omega
        exact Hz 0 (by rw [Sz]; decide)
      · obtain rfl : q = 0 := by omega
        rw [← e_nw]; exact ⟨f102, ne_a1_b84, ne_b55_b84, g_b84, Nat.min_le_left _ _⟩
  · obtain ⟨T112, h112, k112, X112, e112, E112, A112, Ea112, O112, st112⟩ := newRA X50 hx hZ hown (ty := .long) (C := "[J") (by decide) (hw _ (List.mem_of_getElem? (i := 44) rfl)) (hw _ (List.mem_of_getElem? (i := 45) rfl)) e50 (g := (mkF m 52 #[.val (.ref a1), .val (.int p2), .val (.long q3), .second, .val (.int (1 : Int32)), .unset] [(.int (2 : Int32)), (.ref a1)])) rfl (hb hby d3_52) rfl (by decide) (cap := 2) (by decide) (by decide) (by decide) (by decide) (ad := "[[J") (by decide)
    obtain ⟨b112, g112⟩ : ∃ z, z = h39.size := ⟨_, rfl⟩
    rw [← g112] at A112 Ea112 st112
    have ne_a1_b112 : a1 ≠ b112 := Nat.ne_of_lt (Nat.lt_of_lt_of_le f41.lt (Nat.le_of_eq g112.symm))
    have g_b112 : n0 ≤ b112 := Nat.le_trans Z46 (Nat.le_of_eq g112.symm)
    have sz_b112 : h0.size ≤ b112 := Nat.le_trans KP47.1 (Nat.le_of_eq g112.symm)
    have f113 := f41.ext E112
    have f114 := f42.ext E112
    have f115 := f43.ext E112
    have f116 := f44.ext E112
    have f117 := f45.ext E112
    have Z118 : n0 ≤ h112.size := Nat.le_trans Z46 E112.1
    have KP119 : Keep h0 h112 [a1] := KP47.ext E112
    have K120 : ∀ t, Steps p.tables e below (T112.setTop (mkF m 55 #[.val (.ref a1), .val (.int p2), .val (.long q3), .second, .val (.int (1 : Int32)), .unset] [(.ref b112), (.ref a1)])) t → Steps p.tables e below G t := fun t k => K54 t (st112 t k)
    have V112 : Arv Z h112 b112 k112 (.array .long) (2 : Int32) [.null, .null] .null := (Arv.new A112 (by decide)).pad (pad_rep [] .null 2)
    obtain ⟨T121, h121, X121, e121, W121, st121⟩ := putF X112 hx hZ hown (host := "") (Or.inl (hw _ (List.mem_of_getElem? (i := 46) rfl))) Via.refl e112 f117 f113 (Or.inr ⟨(hw _ (List.mem_of_getElem? (i := 47) rfl)), rfl, hnm⟩) (hw _ (List.mem_of_getElem? (i := 8) rfl)) (ty := (.array (.array .long))) (by decide) rfl rfl (g := (mkF m 55 #[.val (.ref a1), .val (.int p2), .val (.long q3), .second, .val (.int (1 : Int32)), .unset] [(.ref b112), (.ref a1)])) rfl rfl (hb hby d3_55)
    have K122 : ∀ t, Steps p.tables e below (T121.setTop (mkF m 58 #[.val (.ref a1), .val (.int p2), .val (.long q3), .second, .val (.int (1 : Int32)), .unset] [])) t → Steps p.tables e below G t := fun t k => K120 t (st121 t k)
    have f123 := f113.wr W121
    have f124 := f114.other W121 (Or.inr (slot_ne (Or.inr (hw _ (List.mem_of_getElem? (i := 20) rfl))) (Or.inr (hw _ (List.mem_of_getElem? (i := 47) rfl))) (by decide) (t := .int) (t' := (.array (.array .long))) (by decide) (by decide)))
    have f125 := f115.other W121 (Or.inr (slot_ne (Or.inr (hw _ (List.mem_of_getElem? (i := 34) rfl))) (Or.inr (hw _ (List.mem_of_getElem? (i := 47) rfl))) (by decide) (t := .int) (t' := (.array (.array .long))) (by decide) (by decide)))
    have f126 := f116.other W121 (Or.inr (slot_ne (Or.inr (hw _ (List.mem_of_getElem? (i := 37) rfl))) (Or.inr (hw _ (List.mem_of_getElem? (i := 47) rfl))) (by decide) (t := .long) (t' := (.array (.array .long))) (by decide) (by decide)))
    have f127 := f117.same W121
    have f128 := V112.other W121 (Ne.symm ne_a1_b112)
    have Z129 : n0 ≤ h121.size := Nat.le_trans Z118 (Keep.of_wr W121).1
    have KP130 : Keep h0 h121 [a1] := KP119.wr W121 (Or.inl (List.mem_of_getElem? (i := 0) rfl))
    have N131 := Fr.snoc X121 N51 g1
    have K132 : ∀ t, Steps p.tables e below (T121.setTop (mkF m 69 #[.val (.ref a1), .val (.int p2), .val (.long q3), .second, .val (.int (1 : Int32)), .val (.int (0 : Int32))] [(.ref a1), (.int (0 : Int32))])) t → Steps p.tables e below G t := by
      intro t k
      refine K122 t ?_
      show Steps p.tables e below (T121.setTop (mkF m 58 #[.val (.ref a1), .val (.int p2), .val (.long q3), .second, .val (.int (1 : Int32)), .unset] [])) _
      refine XS.iconst X121.here hx rfl (hb hby d3_58) ?_
      show Steps p.tables e below (T121.setTop (mkF m 59 #[.val (.ref a1), .val (.int p2), .val (.long q3), .second, .val (.int (1 : Int32)), .unset] [(.int (0 : Int32))])) _
      refine XS.istore X121.here hx rfl (hb hby d3_59) rfl (l' := #[.val (.ref a1), .val (.int p2), .val (.long q3), .second, .val (.int (1 : Int32)), .val (.int (0 : Int32))]) rfl ?_
      show Steps p.tables e below (T121.setTop (mkF m 61 #[.val (.ref a1), .val (.int p2), .val (.long q3), .second, .val (.int (1 : Int32)), .val (.int (0 : Int32))] [])) _
      refine XS.iload X121.here hx rfl (hb hby d3_61) rfl ?_
      show Steps p.tables e below (T121.setTop (mkF m 63 #[.val (.ref a1), .val (.int p2), .val (.long q3), .second, .val (.int (1 : Int32)), .val (.int (0 : Int32))] [(.int (1 : Int32))])) _
      refine XS.ifNo X121.here hx rfl (hb hby d3_63) rfl ((if0 _ _).trans (feq (by decide)).1) ?_
      show Steps p.tables e below (T121.setTop (mkF m 66 #[.val (.ref a1), .val (.int p2), .val (.long q3), .second, .val (.int (1 : Int32)), .val (.int (0 : Int32))] [])) _
      refine XS.iload X121.here hx rfl (hb hby d3_66) rfl ?_
      show Steps p.tables e below (T121.setTop (mkF m 68 #[.val (.ref a1), .val (.int p2), .val (.long q3), .second, .val (.int (1 : Int32)), .val (.int (0 : Int32))] [(.int (0 : Int32))])) _
      refine XS.aloadN X121.here hx rfl (hb hby d3_68) rfl rfl ?_
      show Steps p.tables e below (T121.setTop (mkF m 69 #[.val (.ref a1), .val (.int p2), .val (.long q3), .second, .val (.int (1 : Int32)), .val (.int (0 : Int32))] [(.ref a1), (.int (0 : Int32))])) _
      exact k
    obtain ⟨T133, X133, e133, st133⟩ := getF X121 hx hZ hown (host := "") (Or.inl (hw _ (List.mem_of_getElem? (i := 46) rfl))) Via.refl e121 f127 (g := (mkF m 69 #[.val (.ref a1), .val (.int p2), .val (.long q3), .second, .val (.int (1 : Int32)), .val (.int (0 : Int32))] [(.ref a1), (.int (0 : Int32))])) rfl rfl (hb hby d3_69)
    have K134 : ∀ t, Steps p.tables e below (T133.setTop (mkF m 72 #[.val (.ref a1), .val (.int p2), .val (.long q3), .second, .val (.int (1 : Int32)), .val (.int (0 : Int32))] [(.ref b112), (.int (0 : Int32))])) t → Steps p.tables e below G t := fun t k => K132 t (st133 t k)
    obtain ⟨cl135, Ar135, -, S135, M135, -, -⟩ := id f128
    have K136 : ∀ t, Steps p.tables e below (T133.setTop (mkF m 73 #[.val (.ref a1), .val (.int p2), .val (.long q3), .second, .val (.int (1 : Int32)), .val (.int (0 : Int32))] [(.int (2 : Int32)), (.int (0 : Int32))])) t → Steps p.tables e below G t := by
      intro t k
      refine K134 t ?_
      refine X133.arraylength hx (by rw [e133]; exact Ar135.1) (State.isArrayOf_alike hZ.alike Ar135.2.1) (g := (mkF m 72 #[.val (.ref a1), .val (.int p2), .val (.long q3), .second, .val (.int (1 : Int32)), .val (.int (0 : Int32))] [(.ref b112), (.int (0 : Int32))])) rfl rfl (hb hby d3_72) _ ?_
      rw [len_of S135 M135]
      exact k
    have K137 : ∀ t, Steps p.tables e below (T133.setTop (mkF m 77 #[.val (.ref a1), .val (.int p2), .val (.long q3), .second, .val (.int (1 : Int32)), .val (.int (0 : Int32))] [(.ref a1)])) t → Steps p.tables e below G t := by
      intro t k
      refine K136 t ?_
      show Steps p.tables e below (T133.setTop (mkF m 73 #[.val (.ref a1), .val (.int p2), .val (.long q3), .second, .val (.int (1 : Int32)), .val (.int (0 : Int32))] [(.int (2 : Int32)), (.int (0 : Int32))])) _
      refine XS.icmpNo X133.here hx rfl (hb hby d3_73) rfl (tlt (by decide)).2.1 ?_
      show Steps p.tables e below (T133.setTop (mkF m 76 #[.val (.ref a1), .val (.int p2), .val (.long q3), .second, .val (.int (1 : Int32)), .val (.int (0 : Int32))] [])) _
      refine XS.aloadN X133.here hx rfl (hb hby d3_76) rfl rfl ?_
      show Steps p.tables e below (T133.setTop (mkF m 77 #[.val (.ref a1), .val (.int p2), .val (.long q3), .second, .val (.int (1 : Int32)), .val (.int (0 : Int32))] [(.ref a1)])) _
      exact k
    obtain ⟨T138, X138, e138, st138⟩ := getF X133 hx hZ hown (host := "") (Or.inl (hw _ (List.mem_of_getElem? (i := 46) rfl))) Via.refl e133 f127 (g := (mkF m 77 #[.val (.ref a1), .val (.int p2), .val (.long q3), .second, .val (.int (1 : Int32)), .val (.int (0 : Int32))] [(.ref a1)])) rfl rfl (hb hby d3_77)
    have K139 : ∀ t, Steps p.tables e below (T138.setTop (mkF m 80 #[.val (.ref a1), .val (.int p2), .val (.long q3), .second, .val (.int (1 : Int32)), .val (.int (0 : Int32))] [(.ref b112)])) t → Steps p.tables e below G t := fun t k => K137 t (st138 t k)
    have K140 : ∀ t, Steps p.tables e below (T138.setTop (mkF m 85 #[.val (.ref a1), .val (.int p2), .val (.long q3), .second, .val (.int (1 : Int32)), .val (.int (0 : Int32))] [(.int (0 : Int32)), (.ref a1), (.int (0 : Int32)), (.ref b112)])) t → Steps p.tables e below G t := by
      intro t k
      refine K139 t ?_
      show Steps p.tables e below (T138.setTop (mkF m 80 #[.val (.ref a1), .val (.int p2), .val (.long q3), .second, .val (.int (1 : Int32)), .val (.int (0 : Int32))] [(.ref b112)])) _
      refine XS.iload X138.here hx rfl (hb hby d3_80) rfl ?_
      show Steps p.tables e below (T138.setTop (mkF m 82 #[.val (.ref a1), .val (.int p2), .val (.long q3), .second, .val (.int (1 : Int32)), .val (.int (0 : Int32))] [(.int (0 : Int32)), (.ref b112)])) _
      refine XS.aloadN X138.here hx rfl (hb hby d3_82) rfl rfl ?_
      show Steps p.tables e below (T138.setTop (mkF m 83 #[.val (.ref a1), .val (.int p2), .val (.long q3), .second, .val (.int (1 : Int32)), .val (.int (0 : Int32))] [(.ref a1), (.int (0 : Int32)), (.ref b112)])) _
      refine XS.iload X138.here hx rfl (hb hby d3_83) rfl ?_
      show Steps p.tables e below (T138.setTop (mkF m 85 #[.val (.ref a1), .val (.int p2), .val (.long q3), .second, .val (.int (1 : Int32)), .val (.int (0 : Int32))] [(.int (0 : Int32)), (.ref a1), (.int (0 : Int32)), (.ref b112)])) _
      exact k
    obtain ⟨cq141, q141, q141'⟩ := f123.cell
    obtain ⟨_, _, ⟨T141, L141, kk141, nn141⟩, -, X141, ⟨Lc141, hQ141, lq141, yq141, zq141⟩, st141⟩ := X138.privateBack hx (y := (⟨"com/example/holdover/holdover/analysis/FixedWidthLongs", "newPage", "(I)[J"⟩ : MethodName)) hown (mvT hZ (hw _ (List.mem_of_getElem? (i := 48) rfl))) (mvT hZ (hw _ (List.mem_of_getElem? (i := 49) rfl))) (own_selp hZ (hw _ (List.mem_of_getElem? (i := 8) rfl)) (hw _ (List.mem_of_getElem? (i := 50) rfl)) (hw _ (List.mem_of_getElem? (i := 49) rfl)) (by decide)) (Cond.privateMethod_at (mvP hZ (hw _ (List.mem_of_getElem? (i := 50) rfl)) (args := #[]))) (mvT hZ (hw _ (List.mem_of_getElem? (i := 51) rfl))) (by decide) (backOf (W := 2) (rm9 l Z a0 hw [] a1 (0 : Int32) p2 wv nw h121 n0 Z129 f123 f124 f125 hwv hnw ⟨by decide, by show (8192 : Int) * 0 < nw; omega⟩) hZ (hw _ (List.mem_of_getElem? (i := 51) rfl)) (hw _ (List.mem_of_getElem? (i := 9) rfl)) (by decide) (by decide)) (g := (mkF m 85 #[.val (.ref a1), .val (.int p2), .val (.long q3), .second, .val (.int (1 : Int32)), .val (.int (0 : Int32))] [(.int (0 : Int32)), (.ref a1), (.int (0 : Int32)), (.ref b112)])) rfl (by rw [hml]; rfl) (Steps.refl _) (a := a1) (by rw [e138]; exact q141) q141' (argsL := [(.int (0 : Int32))]) (rest := [(.int (0 : Int32)), (.ref b112)]) (lenOf pd_5 rfl) rfl (by show 2 * 0 + _ ≤ _; exact Nat.le_of_eq rfl) (hb hby d3_85) (fun _ _ => ⟨rfl, e138, (by decide : 1 + 1 ≤ _), (by decide : 2 + 8192 ≤ _)⟩)
    dsimp only [Pt.U, Pt.locs, Pt.cells, Pt.slots] at X141 lq141 yq141 zq141 st141 hQ141
    subst lq141 yq141 zq141
    obtain ⟨b141, rfl, Nq141, EX141, eb141, AF141, EA141⟩ := hQ141
    have N142 := Fr.app N131 Nq141
    have ne_a1_b141 : a1 ≠ b141 := Nat.ne_of_lt (Nat.lt_of_lt_of_le f123.lt (Nat.le_of_eq eb141.symm))
    have ne_b112_b141 : b112 ≠ b141 := Nat.ne_of_lt (Nat.lt_of_lt_of_le f128.lt (Nat.le_of_eq eb141.symm))
    have g_b141 : n0 ≤ b141 := Nat.le_trans Z129 (Nat.le_of_eq eb141.symm)
    have f143 := f123.ext EX141
    have f144 := f124.ext EX141
    have f145 := f125.ext EX141
    have f146 := f126.ext EX141
    have f147 := f127.ext EX141
    have f148 := f128.ext EX141
    have Z149 : n0 ≤ T141.heap.size := Nat.le_trans Z129 EX141.1
    have KP150 : Keep h0 T141.heap [a1] := KP130.ext EX141
    have K151 : ∀ t, Steps p.tables e below (T141.setTop (mkF m 88 #[.val (.ref a1), .val (.int p2), .val (.long q3), .second, .val (.int (1 : Int32)), .val (.int (0 : Int32))] [(.ref b141), (.int (0 : Int32)), (.ref b112)])) t → Steps p.tables e below G t := fun t k => K140 t (st141.trans k)
    obtain ⟨cl152, Ar152, q152, S152, M152, Ha152, Ga152⟩ := id f148
    have hin152 : ¬ ((0 : Int32) < 0 ∨ cl152.slots.size ≤ ((0 : Int32)).toNatClampNeg) := inb_of S152 ⟨by decide, by decide⟩
    obtain ⟨T152, h152, X152, e152, W152, st152⟩ := stR X141 hx hZ rfl Ar152 (j := (0 : Int32)) hin152 rfl (Sto.ofVA Ar152 q152 O112 (Ins.self EA141)) (g := (mkF m 88 #[.val (.ref a1), .val (.int p2), .val (.long q3), .second, .val (.int (1 : Int32)), .val (.int (0 : Int32))] [(.ref b141), (.int (0 : Int32)), (.ref b112)])) rfl rfl (hb hby d3_88)
    have V152 : Arv Z h152 b112 k112 (.array .long) (2 : Int32) [(.ref b141), .null] .null := Arv.set Ar152 q152 S152 M152 Ha152 Ga152 rfl W152 0 rfl (Nat.le_of_ble_eq_true rfl)
    have K153 : ∀ t, Steps p.tables e below (T152.setTop (mkF m 89 #[.val (.ref a1), .val (.int p2), .val (.long q3), .second, .val (.int (1 : Int32)), .val (.int (0 : Int32))] [])) t → Steps p.tables e below G t := fun t k => K151 t (st152 t k)
    have f154 := f143.wr W152
    have f155 := f144.other W152 (Or.inl ne_a1_b112)
    have f156 := f145.other W152 (Or.inl ne_a1_b112)
    have f157 := f146.other W152 (Or.inl ne_a1_b112)
    have f158 := f147.other W152 (Or.inl ne_a1_b112)
    have f159 := own_Af_other AF141 W152 (Ne.symm ne_b112_b141)
    have f160 := EA141.wr W152
    have Z161 : n0 ≤ h152.size := Nat.le_trans Z149 (Keep.of_wr W152).1
    have KP162 : Keep h0 h152 [a1] := KP150.wr W152 (Or.inr sz_b112)
    have N163 := Fr.snoc X152 N142 g_b112
    have K164 : ∀ t, Steps p.tables e below (T152.setTop (mkF m 69 #[.val (.ref a1), .val (.int p2), .val (.long q3), .second, .val (.int (1 : Int32)), .val (.int (1 : Int32))] [(.ref a1), (.int (1 : Int32))])) t → Steps p.tables e below G t := by
      intro t k
      refine K153 t ?_
      show Steps p.tables e below (T152.setTop (mkF m 89 #[.val (.ref a1), .val (.int p2), .val (.long q3), .second, .val (.int (1 : Int32)), .val (.int (0 : Int32))] [])) _
      refine XS.iinc X152.here hx rfl (hb hby d3_89) rfl (l' := #[.val (.ref a1), .val (.int p2), .val (.long q3), .second, .val (.int (1 : Int32)), .val (.int (1 : Int32))]) rfl ?_
      show Steps p.tables e below (T152.setTop (mkF m 92 #[.val (.ref a1), .val (.int p2), .val (.long q3), .second, .val (.int (1 : Int32)), .val (.int (1 : Int32))] [])) _
      refine XS.goto X152.here hx rfl (pc0 := 92) (pc' := 61) rfl (hb hby d3_92) (by decide) (by decide) ?_
      show Steps p.tables e below (T152.setTop (mkF m 61 #[.val (.ref a1), .val (.int p2), .val (.long q3), .second, .val (.int (1 : Int32)), .val (.int (1 : Int32))] [])) _
      refine XS.iload X152.here hx rfl (hb hby d3_61) rfl ?_
      show Steps p.tables e below (T152.setTop (mkF m 63 #[.val (.ref a1), .val (.int p2), .val (.long q3), .second, .val (.int (1 : Int32)), .val (.int (1 : Int32))] [(.int (1 : Int32))])) _
      refine XS.ifNo X152.here hx rfl (hb hby d3_63) rfl ((if0 _ _).trans (feq (by decide)).1) ?_
      show Steps p.tables e below (T152.setTop (mkF m 66 #[.val (.ref a1), .val (.int p2), .val (.long q3), .second, .val (.int (1 : Int32)), .val (.int (1 : Int32))] [])) _
      refine XS.iload X152.here hx rfl (hb hby d3_66) rfl ?_
      show Steps p.tables e below (T152.setTop (mkF m 68 #[.val (.ref a1), .val (.int p2), .val (.long q3), .second, .val (.int (1 : Int32)), .val (.int (1 : Int32))] [(.int (1 : Int32))])) _
      refine XS.aloadN X152.here hx rfl (hb hby d3_68) rfl rfl ?_
      show Steps p.tables e below (T152.setTop (mkF m 69 #[.val (.ref a1), .val (.int p2), .val (.long q3), .second, .val (.int (1 : Int32)), .val (.int (1 : Int32))] [(.ref a1), (.int (1 : Int32))])) _
      exact k
    obtain ⟨T165, X165, e165, st165⟩ := getF X152 hx hZ hown (host := "") (Or.inl (hw _ (List.mem_of_getElem? (i := 46) rfl))) Via.refl e152 f158 (g := (mkF m 69 #[.val (.ref a1), .val (.int p2), .val (.long q3), .second, .val (.int (1 : Int32)), .val (.int (1 : Int32))] [(.ref a1), (.int (1 : Int32))])) rfl rfl (hb hby d3_69)
    have K166 : ∀ t, Steps p.tables e below (T165.setTop (mkF m 72 #[.val (.ref a1), .val (.int p2), .val (.long q3), .second, .val (.int (1 : Int32)), .val (.int (1 : Int32))] [(.ref b112), (.int (1 : Int32))])) t → Steps p.tables e below G t := fun t k => K164 t (st165 t k)
    obtain ⟨cl167, Ar167, -, S167, M167, -, -⟩ := id V152
    have K168 : ∀ t, Steps p.tables e below (T165.setTop (mkF m 73 #[.val (.ref a1), .val (.int p2), .val (.long q3), .second, .val (.int (1 : Int32)), .val (.int (1 : Int32))] [(.int (2 : Int32)), (.int (1 : Int32))])) t → Steps p.tables e below G t := by
      intro t k
      refine K166 t ?_
      refine X165.arraylength hx (by rw [e165]; exact Ar167.1) (State.isArrayOf_alike hZ.alike Ar167.2.1) (g := (mkF m 72 #[.val (.ref a1), .val (.int p2), .val (.long q3), .second, .val (.int (1 : Int32)), .val (.int (1 : Int32))] [(.ref b112), (.int (1 : Int32))])) rfl rfl (hb hby d3_72) _ ?_
      rw [len_of S167 M167]
      exact k
    have K169 : ∀ t, Steps p.tables e below (T165.setTop (mkF m 77 #[.val (.ref a1), .val (.int p2), .val (.long q3), .second, .val (.int (1 : Int32)), .val (.int (1 : Int32))] [(.ref a1)])) t → Steps p.tables e below G t := by
      intro t k
      refine K168 t ?_
      show Steps p.tables e below (T165.setTop (mkF m 73 #[.val (.ref a1), .val (.int p2), .val (.long q3), .second, .val (.int (1 : Int32)), .val (.int (1 : Int32))] [(.int (2 : Int32)), (.int (1 : Int32))])) _
      refine XS.icmpNo X165.here hx rfl (hb hby d3_73) rfl (tlt (by decide)).2.1 ?_
      show Steps p.tables e below (T165.setTop (mkF m 76 #[.val (.ref a1), .val (.int p2), .val (.long q3), .second, .val (.int (1 : Int32)), .val (.int (1 : Int32))] [])) _
      refine XS.aloadN X165.here hx rfl (hb hby d3_76) rfl rfl ?_
      show Steps p.tables e below (T165.setTop (mkF m 77 #[.val (.ref a1), .val (.int p2), .val (.long q3), .second, .val (.int (1 : Int32)), .val (.int (1 : Int32))] [(.ref a1)])) _
      exact k
    obtain ⟨T170, X170, e170, st170⟩ := getF X165 hx hZ hown (host := "") (Or.inl (hw _ (List.mem_of_getElem? (i := 46) rfl))) Via.refl e165 f158 (g := (mkF m 77 #[.val (.ref a1), .val (.int p2), .val (.long q3), .second, .val (.int (1 : Int32)), .val (.int (1 : Int32))] [(.ref a1)])) rfl rfl (hb hby d3_77)
    have K171 : ∀ t, Steps p.tables e below (T170.setTop (mkF m 80 #[.val (.ref a1), .val (.int p2), .val (.long q3), .second, .val (.int (1 : Int32)), .val (.int (1 : Int32))] [(.ref b112)])) t → Steps p.tables e below G t := fun t k => K169 t (st170 t k)
    have K172 : ∀ t, Steps p.tables e below (T170.setTop (mkF m 85 #[.val (.ref a1), .val (.int p2), .val (.long q3), .second, .val (.int (1 : Int32)), .val (.int (1 : Int32))] [(.int (1 : Int32)), (.ref a1), (.int (1 : Int32)), (.ref b112)])) t → Steps p.tables e below G t := by
      intro t k
      refine K171 t ?_
      show Steps p.tables e below (T170.setTop (mkF m 80 #[.val (.ref a1), .val (.int p2), .val (.long q3), .second, .val (.int (1 : Int32)), .val (.int (1 : Int32))] [(.ref b112)])) _
      refine XS.iload X170.here hx rfl (hb hby d3_80) rfl ?_
      show Steps p.tables e below (T170.setTop (mkF m 82 #[.val (.ref a1), .val (.int p2), .val (.long q3), .second, .val (.int (1 : Int32)), .val (.int (1 : Int32))] [(.int (1 : Int32)), (.ref b112)])) _
      refine XS.aloadN X170.here hx rfl (hb hby d3_82) rfl rfl ?_
      show Steps p.tables e below (T170.setTop (mkF m 83 #[.val (.ref a1), .val (.int p2), .val (.long q3), .second, .val (.int (1 : Int32)), .val (.int (1 : Int32))] [(.ref a1), (.int (1 : Int32)), (.ref b112)])) _
      refine XS.iload X170.here hx rfl (hb hby d3_83) rfl ?_
      show Steps p.tables e below (T170.setTop (mkF m 85 #[.val (.ref a1), .val (.int p2), .val (.long q3), .second, .val (.int (1 : Int32)), .val (.int (1 : Int32))] [(.int (1 : Int32)), (.ref a1), (.int (1 : Int32)), (.ref b112)])) _
      exact k
    obtain ⟨cq173, q173, q173'⟩ := f154.cell
    obtain ⟨_, _, ⟨T173, L173, kk173, nn173⟩, -, X173, ⟨Lc173, hQ173, lq173, yq173, zq173⟩, st173⟩ := X170.privateBack hx (y := (⟨"com/example/holdover/holdover/analysis/FixedWidthLongs", "newPage", "(I)[J"⟩ : MethodName)) hown (mvT hZ (hw _ (List.mem_of_getElem? (i := 48) rfl))) (mvT hZ (hw _ (List.mem_of_getElem? (i := 49) rfl))) (own_selp hZ (hw _ (List.mem_of_getElem? (i := 8) rfl)) (hw _ (List.mem_of_getElem? (i := 50) rfl)) (hw _ (List.mem_of_getElem? (i := 49) rfl)) (by decide)) (Cond.privateMethod_at (mvP hZ (hw _ (List.mem_of_getElem? (i := 50) rfl)) (args := #[]))) (mvT hZ (hw _ (List.mem_of_getElem? (i := 51) rfl))) (by decide) (backOf (W := 2) (rm9 l Z a0 hw [] a1 (1 : Int32) p2 wv nw h152 n0 Z161 f154 f155 f156 hwv hnw ⟨by decide, by show (8192 : Int) * 1 < nw; omega⟩) hZ (hw _ (List.mem_of_getElem? (i := 51) rfl)) (hw _ (List.mem_of_getElem? (i := 9) rfl)) (by decide) (by decide)) (g := (mkF m 85 #[.val (.ref a1), .val (.int p2), .val (.long q3), .second, .val (.int (1 : Int32)), .val (.int (1 : Int32))] [(.int (1 : Int32)), (.ref a1), (.int (1 : Int32)), (.ref b112)])) rfl (by rw [hml]; rfl) (Steps.refl _) (a := a1) (by rw [e170]; exact q173) q173' (argsL := [(.int (1 : Int32))]) (rest := [(.int (1 : Int32)), (.ref b112)]) (lenOf pd_5 rfl) rfl (by show 2 * 0 + _ ≤ _; exact Nat.le_of_eq rfl) (hb hby d3_85) (fun _ _ => ⟨rfl, e170, (by decide : 2 + 1 ≤ _), (by decide : 8194 + 8192 ≤ _)⟩)
    dsimp only [Pt.U, Pt.locs, Pt.cells, Pt.slots] at X173 lq173 yq173 zq173 st173 hQ173
    subst lq173 yq173 zq173
    obtain ⟨b173, rfl, Nq173, EX173, eb173, AF173, EA173⟩ := hQ173
    have N174 := Fr.app N163 Nq173
    have ne_a1_b173 : a1 ≠ b173 := Nat.ne_of_lt (Nat.lt_of_lt_of_le f154.lt (Nat.le_of_eq eb173.symm))
    have ne_b112_b173 : b112 ≠ b173 := Nat.ne_of_lt (Nat.lt_of_lt_of_le V152.lt (Nat.le_of_eq eb173.symm))
    have ne_b141_b173 : b141 ≠ b173 := Nat.ne_of_lt (Nat.lt_of_lt_of_le f160.lt (Nat.le_of_eq eb173.symm))
    have g_b173 : n0 ≤ b173 := Nat.le_trans Z161 (Nat.le_of_eq eb173.symm)
    have f175 := f154.ext EX173
    have f176 := f155.ext EX173
    have f177 := f156.ext EX173
    have f178 := f157.ext EX173
    have f179 := f158.ext EX173
    have f180 := own_Af_ext f159 EX173
    have f181 := f160.ext EX173
    have f182 := V152.ext EX173
    have Z183 : n0 ≤ T173.heap.size := Nat.le_trans Z161 EX173.1
    have KP184 : Keep h0 T173.heap [a1] := KP162.ext EX173
    have K185 : ∀ t, Steps p.tables e below (T173.setTop (mkF m 88 #[.val (.ref a1), .val (.int p2), .val (.long q3), .second, .val (.int (1 : Int32)), .val (.int (1 : Int32))] [(.ref b173), (.int (1 : Int32)), (.ref b112)])) t → Steps p.tables e below G t := fun t k => K172 t (st173.trans k)
    obtain ⟨cl186, Ar186, q186, S186, M186, Ha186, Ga186⟩ := id f182
    have hin186 : ¬ ((1 : Int32) < 0 ∨ cl186.slots.size ≤ ((1 : Int32)).toNatClampNeg) := inb_of S186 ⟨by decide, by decide⟩
    obtain ⟨T186, h186, X186, e186, W186, st186⟩ := stR X173 hx hZ rfl Ar186 (j := (1 : Int32)) hin186 rfl (Sto.ofVA Ar186 q186 O112 (Ins.self EA173)) (g := (mkF m 88 #[.val (.ref a1), .val (.int p2), .val (.long q3), .second, .val (.int (1 : Int32)), .val (.int (1 : Int32))] [(.ref b173), (.int (1 : Int32)), (.ref b112)])) rfl rfl (hb hby d3_88)
    have V186 : Arv Z h186 b112 k112 (.array .long) (2 : Int32) [(.ref b141), (.ref b173)] .null := Arv.set Ar186 q186 S186 M186 Ha186 Ga186 rfl W186 1 rfl (Nat.le_of_ble_eq_true rfl)
    have K187 : ∀ t, Steps p.tables e below (T186.setTop (mkF m 89 #[.val (.ref a1), .val (.int p2), .val (.long q3), .second, .val (.int (1 : Int32)), .val (.int (1 : Int32))] [])) t → Steps p.tables e below G t := fun t k => K185 t (st186 t k)
    have f188 := f175.wr W186
    have f189 := f176.other W186 (Or.inl ne_a1_b112)
    have f190 := f177.other W186 (Or.inl ne_a1_b112)
    have f191 := f178.other W186 (Or.inl ne_a1_b112)
    have f192 := f179.other W186 (Or.inl ne_a1_b112)
    have f193 := own_Af_other f180 W186 (Ne.symm ne_b112_b141)
    have f194 := f181.wr W186
    have f195 := own_Af_other AF173 W186 (Ne.symm ne_b112_b173)
    have f196 := EA173.wr W186
    have Z197 : n0 ≤ h186.size := Nat.le_trans Z183 (Keep.of_wr W186).1
    have KP198 : Keep h0 h186 [a1] := KP184.wr W186 (Or.inr sz_b112)
    have N199 := Fr.snoc X186 N174 g_b112
    have K200 : ∀ t, Steps p.tables e below (T186.setTop (mkF m 69 #[.val (.ref a1), .val (.int p2), .val (.long q3), .second, .val (.int (1 : Int32)), .val (.int (2 : Int32))] [(.ref a1), (.int (2 : Int32))])) t → Steps p.tables e below G t := by
      intro t k
      refine K187 t ?_
      show Steps p.tables e below (T186.setTop (mkF m 89 #[.val (.ref a1), .val (.int p2), .val (.long q3), .second, .val (.int (1 : Int32)), .val (.int (1 : Int32))] [])) _
      refine XS.iinc X186.here hx rfl (hb hby d3_89) rfl (l' := #[.val (.ref a1), .val (.int p2), .val (.long q3), .second, .val (.int (1 : Int32)), .val (.int (2 : Int32))]) rfl ?_
      show Steps p.tables e below (T186.setTop (mkF m 92 #[.val (.ref a1), .val (.int p2), .val (.long q3), .second, .val (.int (1 : Int32)), .val (.int (2 : Int32))] [])) _
      refine XS.goto X186.here hx rfl (pc0 := 92) (pc' := 61) rfl (hb hby d3_92) (by decide) (by decide) ?_
      show Steps p.tables e below (T186.setTop (mkF m 61 #[.val (.ref a1), .val (.int p2), .val (.long q3), .second, .val (.int (1 : Int32)), .val (.int (2 : Int32))] [])) _
      refine XS.iload X186.here hx rfl (hb hby d3_61) rfl ?_
      show Steps p.tables e below (T186.setTop (mkF m 63 #[.val (.ref a1), .val (.int p2), .val (.long q3), .second, .val (.int (1 : Int32)), .val (.int (2 : Int32))] [(.int (1 : Int32))])) _
      refine XS.ifNo X186.here hx rfl (hb hby d3_63) rfl ((if0 _ _).trans (feq (by decide)).1) ?_
      show Steps p.tables e below (T186.setTop (mkF m 66 #[.val (.ref a1), .val (.int p2), .val (.long q3), .second, .val (.int (1 : Int32)), .val (.int (2 : Int32))] [])) _
      refine XS.iload X186.here hx rfl (hb hby d3_66) rfl ?_
      show Steps p.tables e below (T186.setTop (mkF m 68 #[.val (.ref a1), .val (.int p2), .val (.long q3), .second, .val (.int (1 : Int32)), .val (.int (2 : Int32))] [(.int (2 : Int32))])) _
      refine XS.aloadN X186.here hx rfl (hb hby d3_68) rfl rfl ?_
      show Steps p.tables e below (T186.setTop (mkF m 69 #[.val (.ref a1), .val (.int p2), .val (.long q3), .second, .val (.int (1 : Int32)), .val (.int (2 : Int32))] [(.ref a1), (.int (2 : Int32))])) _
      exact k
    obtain ⟨T201, X201, e201, st201⟩ := getF X186 hx hZ hown (host := "") (Or.inl (hw _ (List.mem_of_getElem? (i := 46) rfl))) Via.refl e186 f192 (g := (mkF m 69 #[.val (.ref a1), .val (.int p2), .val (.long q3), .second, .val (.int (1 : Int32)), .val (.int (2 : Int32))] [(.ref a1), (.int (2 : Int32))])) rfl rfl (hb hby d3_69)
    have K202 : ∀ t, Steps p.tables e below (T201.setTop (mkF m 72 #[.val (.ref a1), .val (.int p2), .val (.long q3), .second, .val (.int (1 : Int32)), .val (.int (2 : Int32))] [(.ref b112), (.int (2 : Int32))])) t → Steps p.tables e below G t := fun t k => K200 t (st201 t k)
    obtain ⟨cl203, Ar203, -, S203, M203, -, -⟩ := id V186
    have K204 : ∀ t, Steps p.tables e below (T201.setTop (mkF m 73 #[.val (.ref a1), .val (.int p2), .val (.long q3), .second, .val (.int (1 : Int32)), .val (.int (2 : Int32))] [(.int (2 : Int32)), (.int (2 : Int32))])) t → Steps p.tables e below G t := by
      intro t k
      refine K202 t ?_
      refine X201.arraylength hx (by rw [e201]; exact Ar203.1) (State.isArrayOf_alike hZ.alike Ar203.2.1) (g := (mkF m 72 #[.val (.ref a1), .val (.int p2), .val (.long q3), .second, .val (.int (1 : Int32)), .val (.int (2 : Int32))] [(.ref b112), (.int (2 : Int32))])) rfl rfl (hb hby d3_72) _ ?_
      rw [len_of S203 M203]
      exact k
    obtain ⟨fs, hr, hrun, hended, hW, hsame⟩ := X201.leave (v := none) (fun _ => rfl)
    have KF := K204
    rw [hG] at KF
    refine ⟨_, _, KF _ ?_, hrun, hended, _, _, rfl, ?_, ⟨_, rfl⟩, hW, hsame.mono (by decide) (by decide)⟩
    · show Steps p.tables e below (T201.setTop (mkF m 73 #[.val (.ref a1), .val (.int p2), .val (.long q3), .second, .val (.int (1 : Int32)), .val (.int (2 : Int32))] [(.int (2 : Int32)), (.int (2 : Int32))])) _
      refine XS.icmpYes X201.here hx rfl (pc0 := 73) (pc' := 95) rfl (hb hby d3_73) rfl (flt (by decide)).2.1 (by decide) (by decide) ?_
      show Steps p.tables e below (T201.setTop (mkF m 95 #[.val (.ref a1), .val (.int p2), .val (.long q3), .second, .val (.int (1 : Int32)), .val (.int (2 : Int32))] [])) _
      exact X201.returnOut hx Bd.returns (hb hby d3_95) hr
    · show Q3 Z a1 p2 q3 h0 n0 _ T201.heap _
      rw [e201]
      obtain ⟨cz, Az, -, Sz, -, Hz, -⟩ := V186
      refine ⟨b112, 2, fun q => if q = 0 then b141 else b173, fun q => if q = 0 then min 8192 ((p2.toNatClampNeg * wv.toNatClampNeg + 63) / 64 - 8192 * (0 : Int32).toNatClampNeg) else min 8192 ((p2.toNatClampNeg * wv.toNatClampNeg + 63) / 64 - 8192 * (1 : Int32).toNatClampNeg), wv, mk, rfl, N199, ⟨f188, f190, f191, f192, ⟨cz, Az, Sz, fun q hq => ?_⟩, fun q hq => ?_, fun q r hq hr he => ?_⟩, Z197, hwd, hm, hN1, hN2, own_ok2 (by rw [← e_nw]; exact hnp) (by rw [← e_nw]; exact hnw)⟩
      · rcases (show q = 0 ∨ q = 1 by omega) with rfl | rfl
        · exact Hz 0 (by rw [Sz]; decide)
        · exact Hz 1 (by rw [Sz]; decide)
      · rw [← e_nw]; rcases (show q = 0 ∨ q = 1 by omega) with rfl | rfl
        · exact ⟨f193, ne_a1_b141, ne_b112_b141, g_b141, Nat.min_le_left _ _⟩
        · exact ⟨f195, ne_a1_b173, ne_b112_b173, g_b173, Nat.min_le_left _ _⟩
      · rcases (show q = 0 ∨ q = 1 by omega) with rfl | rfl <;> rcases (show r = 0 ∨ r = 1 by omega) with rfl | rfl
        · rfl
        · exact absurd he ne_b141_b173
        · exact absurd he.symm ne_b141_b173
        · rfl
theorem d2_0 : decode prog_26_method_1_code 0 = .ok (.aload_n 0, 1) := by decide +kernel
theorem d2_1 : decode prog_26_method_1_code 1 = .ok (.iload_n 1, 1) := by decide +kernel
theorem d2_2 : decode prog_26_method_1_code 2 = .ok (.lload_n 2, 1) := by decide +kernel
theorem d2_3 : decode prog_26_method_1_code 3 = .ok (.iconst 1, 1) := by decide +kernel
theorem d2_4 : decode prog_26_method_1_code 4 = .ok (.invokespecial 5, 3) := by decide +kernel
theorem d2_7 : decode prog_26_method_1_code 7 = .ok (.return_, 1) := by decide +kernel
theorem pd_6 : parseMethodDescriptor "(IJZ)V" = some ⟨[.int, .long, .boolean], none⟩ := by decide +kernel
theorem ef_rm2 (m : MethodId) (x0 : Addr) (x1 : Int32) (x2 : Int64) : entryFrame m #[(.ref x0), (.int x1), (.long x2)] 4 = mkF m 0 #[.val (.ref x0), .val (.int x1), .val (.long x2), .second] [] := by first | (simp [entryFrame, mkF, argsToLocals, Value.category]; done) | rfl
set_option maxRecDepth 65536 in
set_option maxHeartbeats 40000000 in
theorem rm2 (l : Launch) (Z : State) (a0 : Array Value) (hw : ∀ d ∈ tables_1, d.before a0 Z = true) (ws : List Jvm.Cond) (a1 : Addr) (p2 : Int32) (q3 : Int64) (h0 : Heap) (n0 : Nat) (Z0 : n0 ≤ h0.size) (E1 : Exa Z h0 a1 "com/example/holdover/holdover/analysis/FixedWidthLongs") (F0 : Fld Z h0 a1 "com/example/holdover/holdover/analysis/FixedWidthLongs" "size" "I" (.int (0 : Int32))) (F1 : Fld Z h0 a1 "com/example/holdover/holdover/analysis/FixedWidthLongs" "width" "I" (.int (0 : Int32))) (F2 : Fld Z h0 a1 "com/example/holdover/holdover/analysis/FixedWidthLongs" "mask" "J" (.long (0 : Int64))) (F3 : Fld Z h0 a1 "com/example/holdover/holdover/analysis/FixedWidthLongs" "pages" "[[J" .null) (g1 : n0 ≤ a1) (hp2 : 1 ≤ p2.toInt) (hbb : ∀ w : Nat, 1 ≤ w → w ≤ 64 → (w = 1 ∨ 2 ^ (w - 1) ≤ q3.toBitVec.toNat) → p2.toNatClampNeg * w ≤ 1048576) :
    MetFree l (⟨"com/example/holdover/holdover/analysis/FixedWidthLongs", "<init>", "(IJ)V"⟩ : MethodName) (head1 (Jvm.Cond.code (⟨"com/example/holdover/holdover/analysis/FixedWidthLongs", "<init>", "(IJ)V"⟩ : MethodName) prog_26_method_1_code 4 none :: ws) ({ frames := 3, cells := 3, slots := 16386, locals := 48 } : Room)) (fun a U => a = #[(.ref a1), (.int p2), (.long q3)] ∧ Z.Warmed39 U.vm ∧ U.heap = h0) (fun _ _ _ _ _ => True) (fun _ U o U' => ∃ v L, o = .returned v ∧ Q2 Z a1 p2 q3 h0 n0 v U'.heap L ∧ FrameEnd U o U' L ({ frames := 3, cells := 3, slots := 16386, locals := 48 } : Room).cells ({ frames := 3, cells := 3, slots := 16386, locals := 48 } : Room).slots) := by
  refine MetFree.of_bodySF (plainFor_of_name pn_com_example_holdover_holdover_analysis_FixedWidthLongs) hisR ?_
  intro p e s m args below meth c s₁ Bd hml0 hP hK
  obtain ⟨rfl, hZ, hh⟩ := hP
  have hx := Bd.exec
  have hby := Bd.bytes
  have hml : c.maxLocals = 4 := hml0
  have hown : s.vm.findClass "com/example/holdover/holdover/analysis/FixedWidthLongs" = some m.cls := findClass_of_methodNamed Bd.named
  have hnm := (name_of_methodNamed Bd.named Bd.method).1
  have X0 : Stand p l e ({ frames := 3, cells := 3, slots := 16386, locals := 48 } : Room) s m #[(.ref a1), (.int p2), (.long q3)] below meth c s₁ [] 0 0 := Stand.of_body Bd
  have e0 : s₁.heap = h0 := by rw [← hh, Bd.state]; rfl
  have N0 := Fr.nil n0
  have KP0 : Keep h0 h0 [a1] := Keep.refl h0 _
  obtain ⟨G, hG⟩ : ∃ G : State, G = s₁.setTop (entryFrame m #[(.ref a1), (.int p2), (.long q3)] 4) := ⟨_, rfl⟩
  have pre0 : ∀ t, Steps p.tables e below (s₁.setTop (mkF m 0 #[.val (.ref a1), .val (.int p2), .val (.long q3), .second] [])) t → Steps p.tables e below G t := fun t k => hG ▸ castTop (ef_rm2 m a1 p2 q3) k
  have K1 : ∀ t, Steps p.tables e below (s₁.setTop (mkF m 4 #[.val (.ref a1), .val (.int p2), .val (.long q3), .second] [(.int (1 : Int32)), (.long q3), (.int p2), (.ref a1)])) t → Steps p.tables e below G t := by
    intro t k
    refine pre0 t ?_
    show Steps p.tables e below (s₁.setTop (mkF m 0 #[.val (.ref a1), .val (.int p2), .val (.long q3), .second] [])) _
    refine XS.aloadN X0.here hx rfl (hb hby d2_0) rfl rfl ?_
    show Steps p.tables e below (s₁.setTop (mkF m 1 #[.val (.ref a1), .val (.int p2), .val (.long q3), .second] [(.ref a1)])) _
    refine XS.iloadN X0.here hx rfl (hb hby d2_1) rfl ?_
    show Steps p.tables e below (s₁.setTop (mkF m 2 #[.val (.ref a1), .val (.int p2), .val (.long q3), .second] [(.int p2), (.ref a1)])) _
    refine XS.lloadN X0.here hx rfl (hb hby d2_2) rfl ?_
    show Steps p.tables e below (s₁.setTop (mkF m 3 #[.val (.ref a1), .val (.int p2), .val (.long q3), .second] [(.long q3), (.int p2), (.ref a1)])) _
    refine XS.iconst X0.here hx rfl (hb hby d2_3) ?_
    show Steps p.tables e below (s₁.setTop (mkF m 4 #[.val (.ref a1), .val (.int p2), .val (.long q3), .second] [(.int (1 : Int32)), (.long q3), (.int p2), (.ref a1)])) _
    exact k
  obtain ⟨_, _, ⟨T2, L2, kk2, nn2⟩, -, X2, ⟨Lc2, hQ2, lq2, yq2, zq2⟩, st2⟩ := X0.specialBack hx (y := (⟨"com/example/holdover/holdover/analysis/FixedWidthLongs", "<init>", "(IJZ)V"⟩ : MethodName)) rfl hown (mvT hZ (hw _ (List.mem_of_getElem? (i := 13) rfl))) (mvT hZ (hw _ (List.mem_of_getElem? (i := 14) rfl))) (mvT hZ (hw _ (List.mem_of_getElem? (i := 15) rfl))) (by decide) (backOf (W := 0) (rm3 l Z a0 hw [] a1 p2 q3 h0 n0 Z0 E1 F0 F1 F2 F3 g1 hp2 hbb) hZ (hw _ (List.mem_of_getElem? (i := 15) rfl)) (hw _ (List.mem_of_getElem? (i := 9) rfl)) (by decide) (by decide)) (g := (mkF m 4 #[.val (.ref a1), .val (.int p2), .val (.long q3), .second] [(.int (1 : Int32)), (.long q3), (.int p2), (.ref a1)])) rfl (by rw [hml]; rfl) (Steps.refl _) (a := a1) (argsL := [(.int p2), (.long q3), (.int (1 : Int32))]) (rest := []) (lenOf pd_6 rfl) rfl (by show 2 * 0 + _ ≤ _; exact Nat.le_of_eq rfl) (hb hby d2_4) (fun _ _ => ⟨rfl, e0, (by decide : 0 + 3 ≤ _), (by decide : 0 + 16386 ≤ _)⟩)
  dsimp only [Pt.U, Pt.locs, Pt.cells, Pt.slots] at X2 lq2 yq2 zq2 st2 hQ2
  subst lq2 yq2 zq2
  obtain ⟨ps2, np2, P2, ln2, wd2, mk2, rfl, Nq2, SS2, Zq2, hwd, hm, hN1, hN2, hok⟩ := hQ2
  have N3 := Fr.app N0 Nq2
  have Ex2 := SS2.1
  have K4 : ∀ t, Steps p.tables e below (T2.setTop (mkF m 7 #[.val (.ref a1), .val (.int p2), .val (.long q3), .second] [])) t → Steps p.tables e below G t := fun t k => K1 t (st2.trans k)
  obtain ⟨fs, hr, hrun, hended, hW, hsame⟩ := X2.leave (v := none) (fun _ => rfl)
  have KF := K4
  rw [hG] at KF
  refine ⟨_, _, KF _ ?_, hrun, hended, _, _, rfl, ?_, ⟨_, rfl⟩, hW, hsame.mono (by decide) (by decide)⟩
  · show Steps p.tables e below (T2.setTop (mkF m 7 #[.val (.ref a1), .val (.int p2), .val (.long q3), .second] [])) _
    exact X2.returnOut hx Bd.returns (hb hby d2_7) hr
  · show Q2 Z a1 p2 q3 h0 n0 _ T2.heap _
    exact ⟨_, _, _, _, _, _, rfl, N3, SS2, Zq2, hwd, hm, hN1, hN2, hok⟩
theorem own_fitv {x L : Int64} {w : Nat} (h : L.toBitVec.toNat < 2 ^ w) : ∀ j, w ≤ j → (x &&& L).toBitVec.getLsbD j = false := fun j hj => by
  have : L.toBitVec.getLsbD j = false := by rw [BitVec.getLsbD]; exact Nat.testBit_lt_two_pow (Nat.lt_of_lt_of_le h (Nat.pow_le_pow_right (by decide) hj))
  rw [Int64.toBitVec_and, BitVec.getLsbD_and, this, Bool.and_false]
theorem own_bset {W W' : Nat → Int64} {i w : Nat} {v : Int64} (h : (fun n => (W' n).toBitVec) = own_setW (fun n => (W n).toBitVec) (i * w) w v.toBitVec) (hw : w ≤ 64) (hv : ∀ j, w ≤ j → v.toBitVec.getLsbD j = false) (k j : Nat) (hj : j < w) : own_bit (fun n => (W' n).toBitVec) (k * w + j) = if k = i then v.toBitVec.getLsbD j else own_bit (fun n => (W n).toBitVec) (k * w + j) := by
  rw [h, own_set_bit _ _ _ _ hw hv]
  by_cases q : k = i
  · subst q; rw [if_pos rfl, if_pos (by omega), Nat.add_sub_cancel_left]
  · rw [if_neg q, if_neg (own_apart _ _ _ _ hj q)]
theorem own_geq {W : Nat → Int64} {g v : Int64} {i w : Nat} (hg : g.toBitVec = own_getW (fun n => (W n).toBitVec) (i * w) w) (hw : w ≤ 64) (hv : ∀ j, w ≤ j → v.toBitVec.getLsbD j = false) (h : ∀ j, j < w → own_bit (fun n => (W n).toBitVec) (i * w + j) = v.toBitVec.getLsbD j) : g = v :=
  Int64.toBitVec_inj.mp (hg.trans (own_get_eq _ _ _ hw _ hv h))
def own_fit (v : Int64) (w : Int32) (mk lw lg : Int64) : Int64 := if w = (64 : Int32) then v else if lg < v &&& mk then (v &&& mk) &&& lw else v &&& mk
theorem own_fit_bits {v mk lw lg : Int64} {w : Int32} (hw : 1 ≤ w.toInt ∧ w.toInt ≤ 64) (hm : mk.toBitVec = own_mask w.toNatClampNeg) : ∀ j, w.toNatClampNeg ≤ j → (own_fit v w mk lw lg).toBitVec.getLsbD j = false := fun j hj => by
  have nw := own_nn (show 0 ≤ w.toInt by omega)
  have z : mk.toBitVec.getLsbD j = false := by rw [hm, own_mask_bit _ _ (by omega)]; exact decide_eq_false (by omega)
  unfold own_fit
  by_cases q : w = 64
  · rw [if_pos q]
    have : w.toNatClampNeg = 64 := by rw [q]; rfl
    exact BitVec.getLsbD_of_ge _ _ (by omega)
  · rw [if_neg q]
    split
    · rw [Int64.toBitVec_and, Int64.toBitVec_and, BitVec.getLsbD_and, BitVec.getLsbD_and, z, Bool.and_false, Bool.false_and]
    · rw [Int64.toBitVec_and, BitVec.getLsbD_and, z, Bool.and_false]
theorem own_wl {x w : Int32} (h : w = (x &&& (63 : Int32)) + (1 : Int32)) : 1 ≤ w.toInt ∧ w.toInt ≤ 64 := by
  have m := c_mask x 63 6 (by decide) (by decide); have a := c_iadd (x &&& 63) 1; have r := rng32 (x &&& 63 + 1); have r2 := rng32 ((x &&& 63) + 1); have z1 : (1 : Int32).toInt = 1 := rfl
  subst h; omega
theorem own_lg {w : Int32} {mm lw lg l : Int64} (hw : 1 ≤ w.toInt ∧ w.toInt ≤ 64) (hm : mm.toBitVec = own_mask w.toNatClampNeg) (hl : lw = (mm.toUInt64 >>> ((1 : Int32) &&& 0x3f).toInt64.toUInt64).toInt64) (hg : lg = if w = (1 : Int32) then l &&& (1 : Int64) else (mm ^^^ lw) ||| (l &&& lw)) : lg.toBitVec.toNat < 2 ^ w.toNatClampNeg ∧ (w.toNatClampNeg = 1 ∨ 2 ^ (w.toNatClampNeg - 1) ≤ lg.toBitVec.toNat) := by
  have nw := own_nn (show 0 ≤ w.toInt by omega)
  have z1 : (1 : Int32).toInt = 1 := rfl
  by_cases q : w = 1
  · rw [if_pos q] at hg
    have e : w.toNatClampNeg = 1 := by rw [q]; rfl
    rw [e]; refine ⟨?_, Or.inl rfl⟩
    rw [hg, Int64.toBitVec_and, BitVec.toNat_and]
    show _ &&& 1 < 2; exact Nat.lt_succ_of_le Nat.and_le_right
  · rw [if_neg q] at hg
    have w2 : 2 ≤ w.toNatClampNeg := by
      have : w.toInt ≠ 1 := fun z => q (Int32.toInt_inj.mp (z.trans z1.symm))
      omega
    have bl : ∀ j, lw.toBitVec.getLsbD j = decide (j + 1 < w.toNatClampNeg) := fun j => by
      rw [hl, own_ushr _ _ 1 rfl (by decide), BitVec.getLsbD_ushiftRight, hm, own_mask_bit _ _ (by omega), Nat.add_comm]
    have bg : ∀ j, lg.toBitVec.getLsbD j = ((decide (j < w.toNatClampNeg) ^^ decide (j + 1 < w.toNatClampNeg)) || (l.toBitVec.getLsbD j && decide (j + 1 < w.toNatClampNeg))) := fun j => by
      rw [hg, Int64.toBitVec_or, Int64.toBitVec_xor, Int64.toBitVec_and, BitVec.getLsbD_or, BitVec.getLsbD_xor, BitVec.getLsbD_and, bl, hm, own_mask_bit _ _ (by omega)]
    refine ⟨?_, Or.inr ?_⟩
    · apply Nat.lt_pow_two_of_testBit
      intro j hj
      have := bg j
      rw [decide_eq_false (show ¬ j < w.toNatClampNeg by omega), decide_eq_false (show ¬ j + 1 < w.toNatClampNeg by omega)] at this
      rw [BitVec.getLsbD] at this; rw [this]; simp
    · apply Nat.ge_two_pow_of_testBit
      have := bg (w.toNatClampNeg - 1)
      rw [decide_eq_true (show w.toNatClampNeg - 1 < w.toNatClampNeg by omega), decide_eq_false (show ¬ w.toNatClampNeg - 1 + 1 < w.toNatClampNeg by omega)] at this
      rw [BitVec.getLsbD] at this; rw [this]; simp
theorem own_weq {a b N : Nat} (ha : 1 ≤ a) (h1 : N < 2 ^ a) (h2 : b = 1 ∨ 2 ^ (b - 1) ≤ N) : b ≤ a := by
  rcases h2 with h | h
  · omega
  · have := Nat.lt_of_le_of_lt h h1
    have := (Nat.pow_lt_pow_iff_right (show 1 < 2 by decide)).mp this
    omega
theorem own_szv {w sz : Int32} (hw : 1 ≤ w.toInt ∧ w.toInt ≤ 64) (h : sz = (524288 : Int32) / w + (2 : Int32)) : 3 ≤ sz.toInt ∧ sz.toInt ≤ 524290 ∧ sz.toNatClampNeg * w.toNatClampNeg ≤ 1048576 := by
  have z : (524288 : Int32).toInt = 524288 := rfl
  have z2 : (2 : Int32).toInt = 2 := rfl
  have hm : w ≠ -1 := fun q => by rw [q] at hw; exact absurd hw.1 (by decide)
  have d := (c_idiv 524288 w w.toInt rfl hm).1 (by decide)
  have nw := own_nn (show 0 ≤ w.toInt by omega)
  have d1 : 0 ≤ (524288 : Int) / w.toInt := Int.ediv_nonneg (by decide) (by omega)
  have d2 : (524288 : Int) / w.toInt ≤ 524288 := Int.ediv_le_self _ (by decide)
  have d3 : 1 ≤ (524288 : Int) / w.toInt := by
    have := Int.le_ediv_of_mul_le (a := 1) (b := 524288) (c := w.toInt) (by omega) (by omega); exact this
  have a := c_iadd ((524288 : Int32) / w) 2; have ra := rng32 ((524288 : Int32) / w + 2)
  have e : sz.toInt = 524288 / w.toInt + 2 := by rw [h]; rw [z] at d; omega
  refine ⟨by omega, by omega, ?_⟩
  have ns := own_nn (show 0 ≤ sz.toInt by omega)
  have m := Int.ediv_mul_le 524288 (show w.toInt ≠ 0 by omega)
  have : ((sz.toNatClampNeg * w.toNatClampNeg : Nat) : Int) ≤ 1048576 := by
    rw [Int.natCast_mul, ns, nw, e, Int.add_mul]; omega
  omega
theorem own_idx {x sz a : Int32} (hs : 3 ≤ sz.toInt ∧ sz.toInt ≤ 524290) (h : a = (x &&& 2147483647) % sz) : 0 ≤ a.toInt ∧ a.toInt < sz.toInt := by
  have m := c_mask x 2147483647 31 (by decide) (by decide)
  have r := (c_irem (x &&& 2147483647) sz sz.toInt rfl).1 (by rw [m]; omega)
  have q1 := Int.emod_nonneg (x &&& 2147483647).toInt (show sz.toInt ≠ 0 by omega); have q2 := Int.emod_lt_of_pos (x &&& 2147483647).toInt (show 0 < sz.toInt by omega)
  subst h; omega
theorem own_nbr {sz a b : Int32} (hs : 3 ≤ sz.toInt ∧ sz.toInt ≤ 524290) (ha : 0 ≤ a.toInt ∧ a.toInt < sz.toInt) (h : b = if a + (1 : Int32) < sz then a + (1 : Int32) else a - (1 : Int32)) : (0 ≤ b.toInt ∧ b.toInt < sz.toInt) ∧ a.toNatClampNeg ≠ b.toNatClampNeg := by
  have z1 : (1 : Int32).toInt = 1 := rfl
  have s := c_iadd a 1; have rs := rng32 (a + 1); have t := c_isub a 1; have rt := rng32 (a - 1)
  simp only [Int32.lt_iff_toInt_lt] at h
  by_cases q : (a + (1 : Int32)).toInt < sz.toInt
  · rw [if_pos q] at h; subst h; simp only [Int32.toNatClampNeg]; omega
  · rw [if_neg q] at h; subst h; simp only [Int32.toNatClampNeg]; omega
theorem own_ixp {sz a : Int32} (hs : 3 ≤ sz.toInt ∧ sz.toInt ≤ 524290) (ha : 0 ≤ a.toInt ∧ a.toInt < sz.toInt) : (0 ≤ a.toInt ∧ a.toInt < 1048576) ∧ a.toNatClampNeg < sz.toNatClampNeg := by
  simp only [Int32.toNatClampNeg]; omega
theorem own_inj {a b : Int32} (ha : 0 ≤ a.toInt) (hb : 0 ≤ b.toInt) : a.toNatClampNeg = b.toNatClampNeg ↔ a = b := by
  refine ⟨fun h => Int32.toInt_inj.mp ?_, fun h => by rw [h]⟩
  simp only [Int32.toNatClampNeg] at h; omega
def Q1 (v1 : Int64) (p2 : Int32) (mk lw lg : Int64) (h0 : Heap) (n0 : Nat) (v : Option Value) (h : Heap) (L : List Loc) : Prop := v = some (.long (own_fit v1 p2 mk lw lg)) ∧ Fr n0 L ∧ h = h0
theorem d1_0 : decode method_3_code 0 = .ok (.iload_n 2, 1) := by decide +kernel
theorem d1_1 : decode method_3_code 1 = .ok (.bipush 64, 2) := by decide +kernel
theorem d1_3 : decode method_3_code 3 = .ok (.if_icmp .ne 5, 3) := by decide +kernel
theorem d1_6 : decode method_3_code 6 = .ok (.lload_n 0, 1) := by decide +kernel
theorem d1_7 : decode method_3_code 7 = .ok (.lreturn, 1) := by decide +kernel
theorem d1_8 : decode method_3_code 8 = .ok (.lload_n 0, 1) := by decide +kernel
theorem d1_9 : decode method_3_code 9 = .ok (.lload_n 3, 1) := by decide +kernel
theorem d1_10 : decode method_3_code 10 = .ok (.land, 1) := by decide +kernel
theorem d1_11 : decode method_3_code 11 = .ok (.lstore 9, 2) := by decide +kernel
theorem d1_13 : decode method_3_code 13 = .ok (.lload 9, 2) := by decide +kernel
theorem d1_15 : decode method_3_code 15 = .ok (.lload 7, 2) := by decide +kernel
theorem d1_17 : decode method_3_code 17 = .ok (.lcmp, 1) := by decide +kernel
theorem d1_18 : decode method_3_code 18 = .ok (.ifCond .le 11, 3) := by decide +kernel
theorem d1_21 : decode method_3_code 21 = .ok (.lload 9, 2) := by decide +kernel
theorem d1_23 : decode method_3_code 23 = .ok (.lload 5, 2) := by decide +kernel
theorem d1_25 : decode method_3_code 25 = .ok (.land, 1) := by decide +kernel
theorem d1_26 : decode method_3_code 26 = .ok (.goto 5, 3) := by decide +kernel
theorem d1_29 : decode method_3_code 29 = .ok (.lload 9, 2) := by decide +kernel
theorem d1_31 : decode method_3_code 31 = .ok (.lreturn, 1) := by decide +kernel
theorem pn_com_example_holdover_holdover_analysis_FixedWidthLongsGetPinLaw : plainName "com/example/holdover/holdover/analysis/FixedWidthLongsGetPinLaw" = true := by first | (simp [plainName, overriddenIn]; done) | decide +kernel
theorem ef_rm1 (m : MethodId) (x0 : Int64) (x1 : Int32) (x2 : Int64) (x3 : Int64) (x4 : Int64) : entryFrame m #[(.long x0), (.int x1), (.long x2), (.long x3), (.long x4)] 11 = mkF m 0 #[.val (.long x0), .second, .val (.int x1), .val (.long x2), .second, .val (.long x3), .second, .val (.long x4), .second, .unset, .unset] [] := by first | (simp [entryFrame, mkF, argsToLocals, Value.category]; done) | rfl
set_option maxRecDepth 65536 in
set_option maxHeartbeats 40000000 in
theorem rm1 (l : Launch) (Z : State) (a0 : Array Value) (hw : ∀ d ∈ tables_1, d.before a0 Z = true) (ws : List Jvm.Cond) (v1 : Int64) (p2 : Int32) (mk lw lg : Int64) (h0 : Heap) (n0 : Nat) (Z0 : n0 ≤ h0.size) :
    MetFree l (⟨"com/example/holdover/holdover/analysis/FixedWidthLongsGetPinLaw", "fit", "(JIJJJ)J"⟩ : MethodName) (head1 (Jvm.Cond.code (⟨"com/example/holdover/holdover/analysis/FixedWidthLongsGetPinLaw", "fit", "(JIJJJ)J"⟩ : MethodName) method_3_code 11 (some .long) :: ws) ({ frames := 0, cells := 0, slots := 0, locals := 0 } : Room)) (fun a U => a = #[(.long v1), (.int p2), (.long mk), (.long lw), (.long lg)] ∧ Z.Warmed39 U.vm ∧ U.heap = h0) (fun _ _ _ _ _ => True) (fun _ U o U' => ∃ v L, o = .returned v ∧ Q1 v1 p2 mk lw lg h0 n0 v U'.heap L ∧ FrameEnd U o U' L ({ frames := 0, cells := 0, slots := 0, locals := 0 } : Room).cells ({ frames := 0, cells := 0, slots := 0, locals := 0 } : Room).slots) := by
  refine MetFree.of_bodySF (plainFor_of_name pn_com_example_holdover_holdover_analysis_FixedWidthLongsGetPinLaw) hisR ?_
  intro p e s m args below meth c s₁ Bd hml0 hP hK
  obtain ⟨rfl, hZ, hh⟩ := hP
  have hx := Bd.exec
  have hby := Bd.bytes
  have hml : c.maxLocals = 11 := hml0
  have hown : s.vm.findClass "com/example/holdover/holdover/analysis/FixedWidthLongsGetPinLaw" = some m.cls := findClass_of_methodNamed Bd.named
  have hnm := (name_of_methodNamed Bd.named Bd.method).1
  have X0 : Stand p l e ({ frames := 0, cells := 0, slots := 0, locals := 0 } : Room) s m #[(.long v1), (.int p2), (.long mk), (.long lw), (.long lg)] below meth c s₁ [] 0 0 := Stand.of_body Bd
  have e0 : s₁.heap = h0 := by rw [← hh, Bd.state]; rfl
  have N0 := Fr.nil n0
  have KP0 : Keep h0 h0 [] := Keep.refl h0 _
  obtain ⟨G, hG⟩ : ∃ G : State, G = s₁.setTop (entryFrame m #[(.long v1), (.int p2), (.long mk), (.long lw), (.long lg)] 11) := ⟨_, rfl⟩
  have pre0 : ∀ t, Steps p.tables e below (s₁.setTop (mkF m 0 #[.val (.long v1), .second, .val (.int p2), .val (.long mk), .second, .val (.long lw), .second, .val (.long lg), .second, .unset, .unset] [])) t → Steps p.tables e below G t := fun t k => hG ▸ castTop (ef_rm1 m v1 p2 mk lw lg) k
  have K1 : ∀ t, Steps p.tables e below (s₁.setTop (mkF m 3 #[.val (.long v1), .second, .val (.int p2), .val (.long mk), .second, .val (.long lw), .second, .val (.long lg), .second, .unset, .unset] [(.int (64 : Int32)), (.int p2)])) t → Steps p.tables e below G t := by
    intro t k
    refine pre0 t ?_
    show Steps p.tables e below (s₁.setTop (mkF m 0 #[.val (.long v1), .second, .val (.int p2), .val (.long mk), .second, .val (.long lw), .second, .val (.long lg), .second, .unset, .unset] [])) _
    refine XS.iloadN X0.here hx rfl (hb hby d1_0) rfl ?_
    show Steps p.tables e below (s₁.setTop (mkF m 1 #[.val (.long v1), .second, .val (.int p2), .val (.long mk), .second, .val (.long lw), .second, .val (.long lg), .second, .unset, .unset] [(.int p2)])) _
    refine XS.bipush X0.here hx rfl (hb hby d1_1) ?_
    show Steps p.tables e below (s₁.setTop (mkF m 3 #[.val (.long v1), .second, .val (.int p2), .val (.long mk), .second, .val (.long lw), .second, .val (.long lg), .second, .unset, .unset] [(.int (64 : Int32)), (.int p2)])) _
    exact k
  by_cases hc2 : p2 = (64 : Int32)
  · obtain ⟨fs, hr, hrun, hended, hW, hsame⟩ := X0.leave (v := some (.long v1)) (fun h => by rw [Bd.returns] at h; cases h)
    have KF := K1
    rw [hG] at KF
    refine ⟨_, _, KF _ ?_, hrun, hended, _, _, rfl, ?_, ⟨_, rfl⟩, hW, hsame.mono (by decide) (by decide)⟩
    · show Steps p.tables e below (s₁.setTop (mkF m 3 #[.val (.long v1), .second, .val (.int p2), .val (.long mk), .second, .val (.long lw), .second, .val (.long lg), .second, .unset, .unset] [(.int (64 : Int32)), (.int p2)])) _
      refine XS.icmpNo X0.here hx rfl (hb hby d1_3) rfl (teq hc2).2 ?_
      show Steps p.tables e below (s₁.setTop (mkF m 6 #[.val (.long v1), .second, .val (.int p2), .val (.long mk), .second, .val (.long lw), .second, .val (.long lg), .second, .unset, .unset] [])) _
      refine XS.lloadN X0.here hx rfl (hb hby d1_6) rfl ?_
      show Steps p.tables e below (s₁.setTop (mkF m 7 #[.val (.long v1), .second, .val (.int p2), .val (.long mk), .second, .val (.long lw), .second, .val (.long lg), .second, .unset, .unset] [(.long v1)])) _
      exact own_retL X0 hx Bd.returns (hb hby d1_7) hr
    · show Q1 v1 p2 mk lw lg h0 n0 _ s₁.heap _
      rw [e0]
      exact ⟨by simp only [own_fit, if_pos hc2], N0, rfl⟩
  · have K3 : ∀ t, Steps p.tables e below (s₁.setTop (mkF m 18 #[.val (.long v1), .second, .val (.int p2), .val (.long mk), .second, .val (.long lw), .second, .val (.long lg), .second, .val (.long (v1 &&& mk)), .second] [(.int (lcmpW (v1 &&& mk) lg))])) t → Steps p.tables e below G t := by
      intro t k
      refine K1 t ?_
      show Steps p.tables e below (s₁.setTop (mkF m 3 #[.val (.long v1), .second, .val (.int p2), .val (.long mk), .second, .val (.long lw), .second, .val (.long lg), .second, .unset, .unset] [(.int (64 : Int32)), (.int p2)])) _
      refine XS.icmpYes X0.here hx rfl (pc0 := 3) (pc' := 8) rfl (hb hby d1_3) rfl (feq hc2).2 (by decide) (by decide) ?_
      show Steps p.tables e below (s₁.setTop (mkF m 8 #[.val (.long v1), .second, .val (.int p2), .val (.long mk), .second, .val (.long lw), .second, .val (.long lg), .second, .unset, .unset] [])) _
      refine XS.lloadN X0.here hx rfl (hb hby d1_8) rfl ?_
      show Steps p.tables e below (s₁.setTop (mkF m 9 #[.val (.long v1), .second, .val (.int p2), .val (.long mk), .second, .val (.long lw), .second, .val (.long lg), .second, .unset, .unset] [(.long v1)])) _
      refine XS.lloadN X0.here hx rfl (hb hby d1_9) rfl ?_
      show Steps p.tables e below (s₁.setTop (mkF m 10 #[.val (.long v1), .second, .val (.int p2), .val (.long mk), .second, .val (.long lw), .second, .val (.long lg), .second, .unset, .unset] [(.long mk), (.long v1)])) _
      refine XS.land X0.here hx rfl (hb hby d1_10) rfl ?_
      show Steps p.tables e below (s₁.setTop (mkF m 11 #[.val (.long v1), .second, .val (.int p2), .val (.long mk), .second, .val (.long lw), .second, .val (.long lg), .second, .unset, .unset] [(.long (v1 &&& mk))])) _
      refine XS.lstore X0.here hx rfl (hb hby d1_11) rfl (l' := #[.val (.long v1), .second, .val (.int p2), .val (.long mk), .second, .val (.long lw), .second, .val (.long lg), .second, .val (.long (v1 &&& mk)), .second]) rfl ?_
      show Steps p.tables e below (s₁.setTop (mkF m 13 #[.val (.long v1), .second, .val (.int p2), .val (.long mk), .second, .val (.long lw), .second, .val (.long lg), .second, .val (.long (v1 &&& mk)), .second] [])) _
      refine XS.lload X0.here hx rfl (hb hby d1_13) rfl ?_
      show Steps p.tables e below (s₁.setTop (mkF m 15 #[.val (.long v1), .second, .val (.int p2), .val (.long mk), .second, .val (.long lw), .second, .val (.long lg), .second, .val (.long (v1 &&& mk)), .second] [(.long (v1 &&& mk))])) _
      refine XS.lload X0.here hx rfl (hb hby d1_15) rfl ?_
      show Steps p.tables e below (s₁.setTop (mkF m 17 #[.val (.long v1), .second, .val (.int p2), .val (.long mk), .second, .val (.long lw), .second, .val (.long lg), .second, .val (.long (v1 &&& mk)), .second] [(.long lg), (.long (v1 &&& mk))])) _
      refine XS.lcmp X0.here hx rfl (hb hby d1_17) rfl ?_
      show Steps p.tables e below (s₁.setTop (mkF m 18 #[.val (.long v1), .second, .val (.int p2), .val (.long mk), .second, .val (.long lw), .second, .val (.long lg), .second, .val (.long (v1 &&& mk)), .second] [(.int (lcmpW (v1 &&& mk) lg))])) _
      exact k
    by_cases hc4 : lg < (v1 &&& mk)
    · obtain ⟨fs, hr, hrun, hended, hW, hsame⟩ := X0.leave (v := some (.long ((v1 &&& mk) &&& lw))) (fun h => by rw [Bd.returns] at h; cases h)
      have KF := K3
      rw [hG] at KF
      refine ⟨_, _, KF _ ?_, hrun, hended, _, _, rfl, ?_, ⟨_, rfl⟩, hW, hsame.mono (by decide) (by decide)⟩
      · show Steps p.tables e below (s₁.setTop (mkF m 18 #[.val (.long v1), .second, .val (.int p2), .val (.long mk), .second, .val (.long lw), .second, .val (.long lg), .second, .val (.long (v1 &&& mk)), .second] [(.int (lcmpW (v1 &&& mk) lg))])) _
        refine XS.ifNo X0.here hx rfl (hb hby d1_18) rfl ((if0 _ _).trans (tlt ((lw_gt (v1 &&& mk) lg).mpr hc4)).2.2.2) ?_
        show Steps p.tables e below (s₁.setTop (mkF m 21 #[.val (.long v1), .second, .val (.int p2), .val (.long mk), .second, .val (.long lw), .second, .val (.long lg), .second, .val (.long (v1 &&& mk)), .second] [])) _
        refine XS.lload X0.here hx rfl (hb hby d1_21) rfl ?_
        show Steps p.tables e below (s₁.setTop (mkF m 23 #[.val (.long v1), .second, .val (.int p2), .val (.long mk), .second, .val (.long lw), .second, .val (.long lg), .second, .val (.long (v1 &&& mk)), .second] [(.long (v1 &&& mk))])) _
        refine XS.lload X0.here hx rfl (hb hby d1_23) rfl ?_
        show Steps p.tables e below (s₁.setTop (mkF m 25 #[.val (.long v1), .second, .val (.int p2), .val (.long mk), .second, .val (.long lw), .second, .val (.long lg), .second, .val (.long (v1 &&& mk)), .second] [(.long lw), (.long (v1 &&& mk))])) _
        refine XS.land X0.here hx rfl (hb hby d1_25) rfl ?_
        show Steps p.tables e below (s₁.setTop (mkF m 26 #[.val (.long v1), .second, .val (.int p2), .val (.long mk), .second, .val (.long lw), .second, .val (.long lg), .second, .val (.long (v1 &&& mk)), .second] [(.long ((v1 &&& mk) &&& lw))])) _
        refine XS.goto X0.here hx rfl (pc0 := 26) (pc' := 31) rfl (hb hby d1_26) (by decide) (by decide) ?_
        show Steps p.tables e below (s₁.setTop (mkF m 31 #[.val (.long v1), .second, .val (.int p2), .val (.long mk), .second, .val (.long lw), .second, .val (.long lg), .second, .val (.long (v1 &&& mk)), .second] [(.long ((v1 &&& mk) &&& lw))])) _
        exact own_retL X0 hx Bd.returns (hb hby d1_31) hr
      · show Q1 v1 p2 mk lw lg h0 n0 _ s₁.heap _
        rw [e0]
        exact ⟨by simp only [own_fit, if_neg hc2, if_pos hc4], N0, rfl⟩
    · obtain ⟨fs, hr, hrun, hended, hW, hsame⟩ := X0.leave (v := some (.long (v1 &&& mk))) (fun h => by rw [Bd.returns] at h; cases h)
      have KF := K3
      rw [hG] at KF
      refine ⟨_, _, KF _ ?_, hrun, hended, _, _, rfl, ?_, ⟨_, rfl⟩, hW, hsame.mono (by decide) (by decide)⟩
      · show Steps p.tables e below (s₁.setTop (mkF m 18 #[.val (.long v1), .second, .val (.int p2), .val (.long mk), .second, .val (.long lw), .second, .val (.long lg), .second, .val (.long (v1 &&& mk)), .second] [(.int (lcmpW (v1 &&& mk) lg))])) _
        refine XS.ifYes X0.here hx rfl (pc0 := 18) (pc' := 29) rfl (hb hby d1_18) rfl ((if0 _ _).trans (flt (fun q => hc4 ((lw_gt (v1 &&& mk) lg).mp q))).2.2.2) (by decide) (by decide) ?_
        show Steps p.tables e below (s₁.setTop (mkF m 29 #[.val (.long v1), .second, .val (.int p2), .val (.long mk), .second, .val (.long lw), .second, .val (.long lg), .second, .val (.long (v1 &&& mk)), .second] [])) _
        refine XS.lload X0.here hx rfl (hb hby d1_29) rfl ?_
        show Steps p.tables e below (s₁.setTop (mkF m 31 #[.val (.long v1), .second, .val (.int p2), .val (.long mk), .second, .val (.long lw), .second, .val (.long lg), .second, .val (.long (v1 &&& mk)), .second] [(.long (v1 &&& mk))])) _
        exact own_retL X0 hx Bd.returns (hb hby d1_31) hr
      · show Q1 v1 p2 mk lw lg h0 n0 _ s₁.heap _
        rw [e0]
        exact ⟨by simp only [own_fit, if_neg hc2, if_neg hc4], N0, rfl⟩
def Q0 (n0 : Nat) (v : Option Value) (h : Heap) (L : List Loc) : Prop := v = some (.int 1) ∧ Fr n0 L
theorem pd_7 : parseMethodDescriptor "(JIJJJ)J" = some ⟨[.long, .int, .long, .long, .long], some .long⟩ := by decide +kernel
theorem pd_8 : parseMethodDescriptor "(IJ)V" = some ⟨[.int, .long], none⟩ := by decide +kernel
theorem pd_9 : parseMethodDescriptor "(I)J" = some ⟨[.int], some .long⟩ := by decide +kernel
theorem ef_rm0 (m : MethodId) (x0 : Int32) (x1 : Int64) (x2 : Int64) (x3 : Int64) (x4 : Int32) (x5 : Int32) : entryFrame m #[(.int x0), (.long x1), (.long x2), (.long x3), (.int x4), (.int x5)] maxLocals = mkF m 0 #[.val (.int x0), .val (.long x1), .second, .val (.long x2), .second, .val (.long x3), .second, .val (.int x4), .val (.int x5), .unset, .unset, .unset, .unset, .unset, .unset, .unset, .unset, .unset, .unset, .unset, .unset, .unset, .unset, .unset, .unset, .unset, .unset] [] := by first | (simp [entryFrame, mkF, argsToLocals, Value.category, maxLocals]; done) | rfl
set_option maxRecDepth 65536 in
set_option maxHeartbeats 40000000 in
theorem rm0 (l : Launch) (Z : State) (a0 : Array Value) (hw : ∀ d ∈ tables_1, d.before a0 Z = true) (ws : List Jvm.Cond) (p1 : Int32) (q2 q3 q4 : Int64) (p5 p6 : Int32) (h0 : Heap) (n0 : Nat) (Z0 : n0 ≤ h0.size) :
    MetFree l x (head1 (Jvm.Cond.code x code maxLocals ret :: ws) room_1) (fun a U => a = #[(.int p1), (.long q2), (.long q3), (.long q4), (.int p5), (.int p6)] ∧ Z.Warmed39 U.vm ∧ U.heap = h0) (fun _ _ _ _ _ => True) (fun _ U o U' => ∃ v L, o = .returned v ∧ Q0 n0 v U'.heap L ∧ FrameEnd U o U' L room_1.cells room_1.slots) := by
  refine MetFree.of_bodySF (plainFor_of_name pn_com_example_holdover_holdover_analysis_FixedWidthLongsGetPinLaw) hisR ?_
  intro p e s m args below meth c s₁ Bd hml0 hP hK
  obtain ⟨rfl, hZ, hh⟩ := hP
  have hx := Bd.exec
  have hby := Bd.bytes
  have hml : c.maxLocals = 27 := hml0
  have hown : s.vm.findClass "com/example/holdover/holdover/analysis/FixedWidthLongsGetPinLaw" = some m.cls := findClass_of_methodNamed Bd.named
  have hnm := (name_of_methodNamed Bd.named Bd.method).1
  have X0 : Stand p l e room_1 s m #[(.int p1), (.long q2), (.long q3), (.long q4), (.int p5), (.int p6)] below meth c s₁ [] 0 0 := Stand.of_body Bd
  have e0 : s₁.heap = h0 := by rw [← hh, Bd.state]; rfl
  have N0 := Fr.nil n0
  have KP0 : Keep h0 h0 [] := Keep.refl h0 _
  obtain ⟨G, hG⟩ : ∃ G : State, G = s₁.setTop (entryFrame m #[(.int p1), (.long q2), (.long q3), (.long q4), (.int p5), (.int p6)] maxLocals) := ⟨_, rfl⟩
  have pre0 : ∀ t, Steps p.tables e below (s₁.setTop (mkF m 0 #[.val (.int p1), .val (.long q2), .second, .val (.long q3), .second, .val (.long q4), .second, .val (.int p5), .val (.int p6), .unset, .unset, .unset, .unset, .unset, .unset, .unset, .unset, .unset, .unset, .unset, .unset, .unset, .unset, .unset, .unset, .unset, .unset] [])) t → Steps p.tables e below G t := fun t k => hG ▸ castTop (ef_rm0 m p1 q2 q3 q4 p5 p6) k
  have K1 : ∀ t, Steps p.tables e below (s₁.setTop (mkF m 6 #[.val (.int p1), .val (.long q2), .second, .val (.long q3), .second, .val (.long q4), .second, .val (.int p5), .val (.int p6), .unset, .unset, .unset, .unset, .unset, .unset, .unset, .unset, .unset, .unset, .unset, .unset, .unset, .unset, .unset, .unset, .unset, .unset] [(.int ((p1 &&& (63 : Int32)) + (1 : Int32)))])) t → Steps p.tables e below G t := by
    intro t k
    refine pre0 t ?_
    show Steps p.tables e below (s₁.setTop (mkF m 0 #[.val (.int p1), .val (.long q2), .second, .val (.long q3), .second, .val (.long q4), .second, .val (.int p5), .val (.int p6), .unset, .unset, .unset, .unset, .unset, .unset, .unset, .unset, .unset, .unset, .unset, .unset, .unset, .unset, .unset, .unset, .unset, .unset] [])) _
    refine XS.iloadN X0.here hx rfl (hb hby at_0) rfl ?_
    show Steps p.tables e below (s₁.setTop (mkF m 1 #[.val (.int p1), .val (.long q2), .second, .val (.long q3), .second, .val (.long q4), .second, .val (.int p5), .val (.int p6), .unset, .unset, .unset, .unset, .unset, .unset, .unset, .unset, .unset, .unset, .unset, .unset, .unset, .unset, .unset, .unset, .unset, .unset] [(.int p1)])) _
    refine XS.bipush X0.here hx rfl (hb hby at_1) ?_
    show Steps p.tables e below (s₁.setTop (mkF m 3 #[.val (.int p1), .val (.long q2), .second, .val (.long q3), .second, .val (.long q4), .second, .val (.int p5), .val (.int p6), .unset, .unset, .unset, .unset, .unset, .unset, .unset, .unset, .unset, .unset, .unset, .unset, .unset, .unset, .unset, .unset, .unset, .unset] [(.int (63 : Int32)), (.int p1)])) _
    refine XS.iand X0.here hx rfl (hb hby at_3) rfl ?_
    show Steps p.tables e below (s₁.setTop (mkF m 4 #[.val (.int p1), .val (.long q2), .second, .val (.long q3), .second, .val (.long q4), .second, .val (.int p5), .val (.int p6), .unset, .unset, .unset, .unset, .unset, .unset, .unset, .unset, .unset, .unset, .unset, .unset, .unset, .unset, .unset, .unset, .unset, .unset] [(.int (p1 &&& (63 : Int32)))])) _
    refine XS.iconst X0.here hx rfl (hb hby at_4) ?_
    show Steps p.tables e below (s₁.setTop (mkF m 5 #[.val (.int p1), .val (.long q2), .second, .val (.long q3), .second, .val (.long q4), .second, .val (.int p5), .val (.int p6), .unset, .unset, .unset, .unset, .unset, .unset, .unset, .unset, .unset, .unset, .unset, .unset, .unset, .unset, .unset, .unset, .unset, .unset] [(.int (1 : Int32)), (.int (p1 &&& (63 : Int32)))])) _
    refine XS.iadd X0.here hx rfl (hb hby at_5) rfl ?_
    show Steps p.tables e below (s₁.setTop (mkF m 6 #[.val (.int p1), .val (.long q2), .second, .val (.long q3), .second, .val (.long q4), .second, .val (.int p5), .val (.int p6), .unset, .unset, .unset, .unset, .unset, .unset, .unset, .unset, .unset, .unset, .unset, .unset, .unset, .unset, .unset, .unset, .unset, .unset] [(.int ((p1 &&& (63 : Int32)) + (1 : Int32)))])) _
    exact k
  obtain ⟨wl, h_wl⟩ : ∃ z : Int32, z = ((p1 &&& (63 : Int32)) + (1 : Int32)) := ⟨_, rfl⟩
  have K2 : ∀ t, Steps p.tables e below (s₁.setTop (mkF m 6 #[.val (.int p1), .val (.long q2), .second, .val (.long q3), .second, .val (.long q4), .second, .val (.int p5), .val (.int p6), .unset, .unset, .unset, .unset, .unset, .unset, .unset, .unset, .unset, .unset, .unset, .unset, .unset, .unset, .unset, .unset, .unset, .unset] [(.int wl)])) t → Steps p.tables e below G t := by rw [h_wl]; exact K1
  have hwl := own_wl h_wl
  have K3 : ∀ t, Steps p.tables e below (s₁.setTop (mkF m 17 #[.val (.int p1), .val (.long q2), .second, .val (.long q3), .second, .val (.long q4), .second, .val (.int p5), .val (.int p6), .val (.int wl), .unset, .unset, .unset, .unset, .unset, .unset, .unset, .unset, .unset, .unset, .unset, .unset, .unset, .unset, .unset, .unset, .unset] [(.long (((-1 : Int64).toUInt64 >>> (((64 : Int32) - wl) &&& 0x3f).toInt64.toUInt64).toInt64))])) t → Steps p.tables e below G t := by
    intro t k
    refine K2 t ?_
    show Steps p.tables e below (s₁.setTop (mkF m 6 #[.val (.int p1), .val (.long q2), .second, .val (.long q3), .second, .val (.long q4), .second, .val (.int p5), .val (.int p6), .unset, .unset, .unset, .unset, .unset, .unset, .unset, .unset, .unset, .unset, .unset, .unset, .unset, .unset, .unset, .unset, .unset, .unset] [(.int wl)])) _
    refine XS.istore X0.here hx rfl (hb hby at_6) rfl (l' := #[.val (.int p1), .val (.long q2), .second, .val (.long q3), .second, .val (.long q4), .second, .val (.int p5), .val (.int p6), .val (.int wl), .unset, .unset, .unset, .unset, .unset, .unset, .unset, .unset, .unset, .unset, .unset, .unset, .unset, .unset, .unset, .unset, .unset]) rfl ?_
    show Steps p.tables e below (s₁.setTop (mkF m 8 #[.val (.int p1), .val (.long q2), .second, .val (.long q3), .second, .val (.long q4), .second, .val (.int p5), .val (.int p6), .val (.int wl), .unset, .unset, .unset, .unset, .unset, .unset, .unset, .unset, .unset, .unset, .unset, .unset, .unset, .unset, .unset, .unset, .unset] [])) _
    refine X0.ldc2Long hx hown (mvT hZ (hw _ (List.mem_of_getElem? (i := 0) rfl))) (g := (mkF m 8 #[.val (.int p1), .val (.long q2), .second, .val (.long q3), .second, .val (.long q4), .second, .val (.int p5), .val (.int p6), .val (.int wl), .unset, .unset, .unset, .unset, .unset, .unset, .unset, .unset, .unset, .unset, .unset, .unset, .unset, .unset, .unset, .unset, .unset] [])) rfl (hb hby at_8) _ ?_
    show Steps p.tables e below (s₁.setTop (mkF m 11 #[.val (.int p1), .val (.long q2), .second, .val (.long q3), .second, .val (.long q4), .second, .val (.int p5), .val (.int p6), .val (.int wl), .unset, .unset, .unset, .unset, .unset, .unset, .unset, .unset, .unset, .unset, .unset, .unset, .unset, .unset, .unset, .unset, .unset] [(.long (-1 : Int64))])) _
    refine XS.bipush X0.here hx rfl (hb hby at_11) ?_
    show Steps p.tables e below (s₁.setTop (mkF m 13 #[.val (.int p1), .val (.long q2), .second, .val (.long q3), .second, .val (.long q4), .second, .val (.int p5), .val (.int p6), .val (.int wl), .unset, .unset, .unset, .unset, .unset, .unset, .unset, .unset, .unset, .unset, .unset, .unset, .unset, .unset, .unset, .unset, .unset] [(.int (64 : Int32)), (.long (-1 : Int64))])) _
    refine XS.iload X0.here hx rfl (hb hby at_13) rfl ?_
    show Steps p.tables e below (s₁.setTop (mkF m 15 #[.val (.int p1), .val (.long q2), .second, .val (.long q3), .second, .val (.long q4), .second, .val (.int p5), .val (.int p6), .val (.int wl), .unset, .unset, .unset, .unset, .unset, .unset, .unset, .unset, .unset, .unset, .unset, .unset, .unset, .unset, .unset, .unset, .unset] [(.int wl), (.int (64 : Int32)), (.long (-1 : Int64))])) _
    refine XS.isub X0.here hx rfl (hb hby at_15) rfl ?_
    show Steps p.tables e below (s₁.setTop (mkF m 16 #[.val (.int p1), .val (.long q2), .second, .val (.long q3), .second, .val (.long q4), .second, .val (.int p5), .val (.int p6), .val (.int wl), .unset, .unset, .unset, .unset, .unset, .unset, .unset, .unset, .unset, .unset, .unset, .unset, .unset, .unset, .unset, .unset, .unset] [(.int ((64 : Int32) - wl)), (.long (-1 : Int64))])) _
    refine XS.lushr X0.here hx rfl (hb hby at_16) rfl ?_
    show Steps p.tables e below (s₁.setTop (mkF m 17 #[.val (.int p1), .val (.long q2), .second, .val (.long q3), .second, .val (.long q4), .second, .val (.int p5), .val (.int p6), .val (.int wl), .unset, .unset, .unset, .unset, .unset, .unset, .unset, .unset, .unset, .unset, .unset, .unset, .unset, .unset, .unset, .unset, .unset] [(.long (((-1 : Int64).toUInt64 >>> (((64 : Int32) - wl) &&& 0x3f).toInt64.toUInt64).toInt64))])) _
    exact k
  obtain ⟨mm, h_mm⟩ : ∃ z : Int64, z = (((-1 : Int64).toUInt64 >>> (((64 : Int32) - wl) &&& 0x3f).toInt64.toUInt64).toInt64) := ⟨_, rfl⟩
  have K4 : ∀ t, Steps p.tables e below (s₁.setTop (mkF m 17 #[.val (.int p1), .val (.long q2), .second, .val (.long q3), .second, .val (.long q4), .second, .val (.int p5), .val (.int p6), .val (.int wl), .unset, .unset, .unset, .unset, .unset, .unset, .unset, .unset, .unset, .unset, .unset, .unset, .unset, .unset, .unset, .unset, .unset] [(.long mm)])) t → Steps p.tables e below G t := by rw [h_mm]; exact K3
  have hmm := own_msk hwl h_mm
  have K5 : ∀ t, Steps p.tables e below (s₁.setTop (mkF m 23 #[.val (.int p1), .val (.long q2), .second, .val (.long q3), .second, .val (.long q4), .second, .val (.int p5), .val (.int p6), .val (.int wl), .val (.long mm), .second, .unset, .unset, .unset, .unset, .unset, .unset, .unset, .unset, .unset, .unset, .unset, .unset, .unset, .unset, .unset] [(.long ((mm.toUInt64 >>> ((1 : Int32) &&& 0x3f).toInt64.toUInt64).toInt64))])) t → Steps p.tables e below G t := by
    intro t k
    refine K4 t ?_
    show Steps p.tables e below (s₁.setTop (mkF m 17 #[.val (.int p1), .val (.long q2), .second, .val (.long q3), .second, .val (.long q4), .second, .val (.int p5), .val (.int p6), .val (.int wl), .unset, .unset, .unset, .unset, .unset, .unset, .unset, .unset, .unset, .unset, .unset, .unset, .unset, .unset, .unset, .unset, .unset] [(.long mm)])) _
    refine XS.lstore X0.here hx rfl (hb hby at_17) rfl (l' := #[.val (.int p1), .val (.long q2), .second, .val (.long q3), .second, .val (.long q4), .second, .val (.int p5), .val (.int p6), .val (.int wl), .val (.long mm), .second, .unset, .unset, .unset, .unset, .unset, .unset, .unset, .unset, .unset, .unset, .unset, .unset, .unset, .unset, .unset]) rfl ?_
    show Steps p.tables e below (s₁.setTop (mkF m 19 #[.val (.int p1), .val (.long q2), .second, .val (.long q3), .second, .val (.long q4), .second, .val (.int p5), .val (.int p6), .val (.int wl), .val (.long mm), .second, .unset, .unset, .unset, .unset, .unset, .unset, .unset, .unset, .unset, .unset, .unset, .unset, .unset, .unset, .unset] [])) _
    refine XS.lload X0.here hx rfl (hb hby at_19) rfl ?_
    show Steps p.tables e below (s₁.setTop (mkF m 21 #[.val (.int p1), .val (.long q2), .second, .val (.long q3), .second, .val (.long q4), .second, .val (.int p5), .val (.int p6), .val (.int wl), .val (.long mm), .second, .unset, .unset, .unset, .unset, .unset, .unset, .unset, .unset, .unset, .unset, .unset, .unset, .unset, .unset, .unset] [(.long mm)])) _
    refine XS.iconst X0.here hx rfl (hb hby at_21) ?_
    show Steps p.tables e below (s₁.setTop (mkF m 22 #[.val (.int p1), .val (.long q2), .second, .val (.long q3), .second, .val (.long q4), .second, .val (.int p5), .val (.int p6), .val (.int wl), .val (.long mm), .second, .unset, .unset, .unset, .unset, .unset, .unset, .unset, .unset, .unset, .unset, .unset, .unset, .unset, .unset, .unset] [(.int (1 : Int32)), (.long mm)])) _
    refine XS.lushr X0.here hx rfl (hb hby at_22) rfl ?_
    show Steps p.tables e below (s₁.setTop (mkF m 23 #[.val (.int p1), .val (.long q2), .second, .val (.long q3), .second, .val (.long q4), .second, .val (.int p5), .val (.int p6), .val (.int wl), .val (.long mm), .second, .unset, .unset, .unset, .unset, .unset, .unset, .unset, .unset, .unset, .unset, .unset, .unset, .unset, .unset, .unset] [(.long ((mm.toUInt64 >>> ((1 : Int32) &&& 0x3f).toInt64.toUInt64).toInt64))])) _
    exact k
  obtain ⟨lw, h_lw⟩ : ∃ z : Int64, z = ((mm.toUInt64 >>> ((1 : Int32) &&& 0x3f).toInt64.toUInt64).toInt64) := ⟨_, rfl⟩
  have K6 : ∀ t, Steps p.tables e below (s₁.setTop (mkF m 23 #[.val (.int p1), .val (.long q2), .second, .val (.long q3), .second, .val (.long q4), .second, .val (.int p5), .val (.int p6), .val (.int wl), .val (.long mm), .second, .unset, .unset, .unset, .unset, .unset, .unset, .unset, .unset, .unset, .unset, .unset, .unset, .unset, .unset, .unset] [(.long lw)])) t → Steps p.tables e below G t := by rw [h_lw]; exact K5
  have K7 : ∀ t, Steps p.tables e below (s₁.setTop (mkF m 28 #[.val (.int p1), .val (.long q2), .second, .val (.long q3), .second, .val (.long q4), .second, .val (.int p5), .val (.int p6), .val (.int wl), .val (.long mm), .second, .val (.long lw), .second, .unset, .unset, .unset, .unset, .unset, .unset, .unset, .unset, .unset, .unset, .unset, .unset, .unset] [(.int (1 : Int32)), (.int wl)])) t → Steps p.tables e below G t := by
    intro t k
    refine K6 t ?_
    show Steps p.tables e below (s₁.setTop (mkF m 23 #[.val (.int p1), .val (.long q2), .second, .val (.long q3), .second, .val (.long q4), .second, .val (.int p5), .val (.int p6), .val (.int wl), .val (.long mm), .second, .unset, .unset, .unset, .unset, .unset, .unset, .unset, .unset, .unset, .unset, .unset, .unset, .unset, .unset, .unset] [(.long lw)])) _
    refine XS.lstore X0.here hx rfl (hb hby at_23) rfl (l' := #[.val (.int p1), .val (.long q2), .second, .val (.long q3), .second, .val (.long q4), .second, .val (.int p5), .val (.int p6), .val (.int wl), .val (.long mm), .second, .val (.long lw), .second, .unset, .unset, .unset, .unset, .unset, .unset, .unset, .unset, .unset, .unset, .unset, .unset, .unset]) rfl ?_
    show Steps p.tables e below (s₁.setTop (mkF m 25 #[.val (.int p1), .val (.long q2), .second, .val (.long q3), .second, .val (.long q4), .second, .val (.int p5), .val (.int p6), .val (.int wl), .val (.long mm), .second, .val (.long lw), .second, .unset, .unset, .unset, .unset, .unset, .unset, .unset, .unset, .unset, .unset, .unset, .unset, .unset] [])) _
    refine XS.iload X0.here hx rfl (hb hby at_25) rfl ?_
    show Steps p.tables e below (s₁.setTop (mkF m 27 #[.val (.int p1), .val (.long q2), .second, .val (.long q3), .second, .val (.long q4), .second, .val (.int p5), .val (.int p6), .val (.int wl), .val (.long mm), .second, .val (.long lw), .second, .unset, .unset, .unset, .unset, .unset, .unset, .unset, .unset, .unset, .unset, .unset, .unset, .unset] [(.int wl)])) _
    refine XS.iconst X0.here hx rfl (hb hby at_27) ?_
    show Steps p.tables e below (s₁.setTop (mkF m 28 #[.val (.int p1), .val (.long q2), .second, .val (.long q3), .second, .val (.long q4), .second, .val (.int p5), .val (.int p6), .val (.int wl), .val (.long mm), .second, .val (.long lw), .second, .unset, .unset, .unset, .unset, .unset, .unset, .unset, .unset, .unset, .unset, .unset, .unset, .unset] [(.int (1 : Int32)), (.int wl)])) _
    exact k
  have K9 : ∀ t, Steps p.tables e below (s₁.setTop (mkF m 47 #[.val (.int p1), .val (.long q2), .second, .val (.long q3), .second, .val (.long q4), .second, .val (.int p5), .val (.int p6), .val (.int wl), .val (.long mm), .second, .val (.long lw), .second, .unset, .unset, .unset, .unset, .unset, .unset, .unset, .unset, .unset, .unset, .unset, .unset, .unset] [(.long (if wl = (1 : Int32) then (q2 &&& (1 : Int64)) else ((mm ^^^ lw) ||| (q2 &&& lw))))])) t → Steps p.tables e below G t := by
    intro t k
    refine K7 t ?_
    by_cases hc8 : wl = (1 : Int32)
    · show Steps p.tables e below (s₁.setTop (mkF m 28 #[.val (.int p1), .val (.long q2), .second, .val (.long q3), .second, .val (.long q4), .second, .val (.int p5), .val (.int p6), .val (.int wl), .val (.long mm), .second, .val (.long lw), .second, .unset, .unset, .unset, .unset, .unset, .unset, .unset, .unset, .unset, .unset, .unset, .unset, .unset] [(.int (1 : Int32)), (.int wl)])) _
      refine XS.icmpNo X0.here hx rfl (hb hby at_28) rfl (teq hc8).2 ?_
      show Steps p.tables e below (s₁.setTop (mkF m 31 #[.val (.int p1), .val (.long q2), .second, .val (.long q3), .second, .val (.long q4), .second, .val (.int p5), .val (.int p6), .val (.int wl), .val (.long mm), .second, .val (.long lw), .second, .unset, .unset, .unset, .unset, .unset, .unset, .unset, .unset, .unset, .unset, .unset, .unset, .unset] [])) _
      refine XS.lloadN X0.here hx rfl (hb hby at_31) rfl ?_
      show Steps p.tables e below (s₁.setTop (mkF m 32 #[.val (.int p1), .val (.long q2), .second, .val (.long q3), .second, .val (.long q4), .second, .val (.int p5), .val (.int p6), .val (.int wl), .val (.long mm), .second, .val (.long lw), .second, .unset, .unset, .unset, .unset, .unset, .unset, .unset, .unset, .unset, .unset, .unset, .unset, .unset] [(.long q2)])) _
      refine XS.lconst X0.here hx rfl (hb hby at_32) ?_
      show Steps p.tables e below (s₁.setTop (mkF m 33 #[.val (.int p1), .val (.long q2), .second, .val (.long q3), .second, .val (.long q4), .second, .val (.int p5), .val (.int p6), .val (.int wl), .val (.long mm), .second, .val (.long lw), .second, .unset, .unset, .unset, .unset, .unset, .unset, .unset, .unset, .unset, .unset, .unset, .unset, .unset] [(.long (1 : Int64)), (.long q2)])) _
      refine XS.land X0.here hx rfl (hb hby at_33) rfl ?_
      show Steps p.tables e below (s₁.setTop (mkF m 34 #[.val (.int p1), .val (.long q2), .second, .val (.long q3), .second, .val (.long q4), .second, .val (.int p5), .val (.int p6), .val (.int wl), .val (.long mm), .second, .val (.long lw), .second, .unset, .unset, .unset, .unset, .unset, .unset, .unset, .unset, .unset, .unset, .unset, .unset, .unset] [(.long (q2 &&& (1 : Int64)))])) _
      refine XS.goto X0.here hx rfl (pc0 := 34) (pc' := 47) rfl (hb hby at_34) (by decide) (by decide) ?_
      show Steps p.tables e below (s₁.setTop (mkF m 47 #[.val (.int p1), .val (.long q2), .second, .val (.long q3), .second, .val (.long q4), .second, .val (.int p5), .val (.int p6), .val (.int wl), .val (.long mm), .second, .val (.long lw), .second, .unset, .unset, .unset, .unset, .unset, .unset, .unset, .unset, .unset, .unset, .unset, .unset, .unset] [(.long (q2 &&& (1 : Int64)))])) _
      simp only [if_pos hc8] at k
      exact k
    · show Steps p.tables e below (s₁.setTop (mkF m 28 #[.val (.int p1), .val (.long q2), .second, .val (.long q3), .second, .val (.long q4), .second, .val (.int p5), .val (.int p6), .val (.int wl), .val (.long mm), .second, .val (.long lw), .second, .unset, .unset, .unset, .unset, .unset, .unset, .unset, .unset, .unset, .unset, .unset, .unset, .unset] [(.int (1 : Int32)), (.int wl)])) _
      refine XS.icmpYes X0.here hx rfl (pc0 := 28) (pc' := 37) rfl (hb hby at_28) rfl (feq hc8).2 (by decide) (by decide) ?_
      show Steps p.tables e below (s₁.setTop (mkF m 37 #[.val (.int p1), .val (.long q2), .second, .val (.long q3), .second, .val (.long q4), .second, .val (.int p5), .val (.int p6), .val (.int wl), .val (.long mm), .second, .val (.long lw), .second, .unset, .unset, .unset, .unset, .unset, .unset, .unset, .unset, .unset, .unset, .unset, .unset, .unset] [])) _
      refine XS.lload X0.here hx rfl (hb hby at_37) rfl ?_
      show Steps p.tables e below (s₁.setTop (mkF m 39 #[.val (.int p1), .val (.long q2), .second, .val (.long q3), .second, .val (.long q4), .second, .val (.int p5), .val (.int p6), .val (.int wl), .val (.long mm), .second, .val (.long lw), .second, .unset, .unset, .unset, .unset, .unset, .unset, .unset, .unset, .unset, .unset, .unset, .unset, .unset] [(.long mm)])) _
      refine XS.lload X0.here hx rfl (hb hby at_39) rfl ?_
      show Steps p.tables e below (s₁.setTop (mkF m 41 #[.val (.int p1), .val (.long q2), .second, .val (.long q3), .second, .val (.long q4), .second, .val (.int p5), .val (.int p6), .val (.int wl), .val (.long mm), .second, .val (.long lw), .second, .unset, .unset, .unset, .unset, .unset, .unset, .unset, .unset, .unset, .unset, .unset, .unset, .unset] [(.long lw), (.long mm)])) _
      refine XS.lxor X0.here hx rfl (hb hby at_41) rfl ?_
      show Steps p.tables e below (s₁.setTop (mkF m 42 #[.val (.int p1), .val (.long q2), .second, .val (.long q3), .second, .val (.long q4), .second, .val (.int p5), .val (.int p6), .val (.int wl), .val (.long mm), .second, .val (.long lw), .second, .unset, .unset, .unset, .unset, .unset, .unset, .unset, .unset, .unset, .unset, .unset, .unset, .unset] [(.long (mm ^^^ lw))])) _
      refine XS.lloadN X0.here hx rfl (hb hby at_42) rfl ?_
      show Steps p.tables e below (s₁.setTop (mkF m 43 #[.val (.int p1), .val (.long q2), .second, .val (.long q3), .second, .val (.long q4), .second, .val (.int p5), .val (.int p6), .val (.int wl), .val (.long mm), .second, .val (.long lw), .second, .unset, .unset, .unset, .unset, .unset, .unset, .unset, .unset, .unset, .unset, .unset, .unset, .unset] [(.long q2), (.long (mm ^^^ lw))])) _
      refine XS.lload X0.here hx rfl (hb hby at_43) rfl ?_
      show Steps p.tables e below (s₁.setTop (mkF m 45 #[.val (.int p1), .val (.long q2), .second, .val (.long q3), .second, .val (.long q4), .second, .val (.int p5), .val (.int p6), .val (.int wl), .val (.long mm), .second, .val (.long lw), .second, .unset, .unset, .unset, .unset, .unset, .unset, .unset, .unset, .unset, .unset, .unset, .unset, .unset] [(.long lw), (.long q2), (.long (mm ^^^ lw))])) _
      refine XS.land X0.here hx rfl (hb hby at_45) rfl ?_
      show Steps p.tables e below (s₁.setTop (mkF m 46 #[.val (.int p1), .val (.long q2), .second, .val (.long q3), .second, .val (.long q4), .second, .val (.int p5), .val (.int p6), .val (.int wl), .val (.long mm), .second, .val (.long lw), .second, .unset, .unset, .unset, .unset, .unset, .unset, .unset, .unset, .unset, .unset, .unset, .unset, .unset] [(.long (q2 &&& lw)), (.long (mm ^^^ lw))])) _
      refine XS.lor X0.here hx rfl (hb hby at_46) rfl ?_
      show Steps p.tables e below (s₁.setTop (mkF m 47 #[.val (.int p1), .val (.long q2), .second, .val (.long q3), .second, .val (.long q4), .second, .val (.int p5), .val (.int p6), .val (.int wl), .val (.long mm), .second, .val (.long lw), .second, .unset, .unset, .unset, .unset, .unset, .unset, .unset, .unset, .unset, .unset, .unset, .unset, .unset] [(.long ((mm ^^^ lw) ||| (q2 &&& lw)))])) _
      simp only [if_neg hc8] at k
      exact k
  obtain ⟨lg, h_lg⟩ : ∃ z : Int64, z = (if wl = (1 : Int32) then (q2 &&& (1 : Int64)) else ((mm ^^^ lw) ||| (q2 &&& lw))) := ⟨_, rfl⟩
  have K10 : ∀ t, Steps p.tables e below (s₁.setTop (mkF m 47 #[.val (.int p1), .val (.long q2), .second, .val (.long q3), .second, .val (.long q4), .second, .val (.int p5), .val (.int p6), .val (.int wl), .val (.long mm), .second, .val (.long lw), .second, .unset, .unset, .unset, .unset, .unset, .unset, .unset, .unset, .unset, .unset, .unset, .unset, .unset] [(.long lg)])) t → Steps p.tables e below G t := by rw [h_lg]; exact K9
  have hlg := own_lg hwl hmm h_lw h_lg
  have K11 : ∀ t, Steps p.tables e below (s₁.setTop (mkF m 56 #[.val (.int p1), .val (.long q2), .second, .val (.long q3), .second, .val (.long q4), .second, .val (.int p5), .val (.int p6), .val (.int wl), .val (.long mm), .second, .val (.long lw), .second, .val (.long lg), .second, .unset, .unset, .unset, .unset, .unset, .unset, .unset, .unset, .unset, .unset, .unset] [(.int (((524288 : Int32) / wl) + (2 : Int32)))])) t → Steps p.tables e below G t := by
    intro t k
    refine K10 t ?_
    show Steps p.tables e below (s₁.setTop (mkF m 47 #[.val (.int p1), .val (.long q2), .second, .val (.long q3), .second, .val (.long q4), .second, .val (.int p5), .val (.int p6), .val (.int wl), .val (.long mm), .second, .val (.long lw), .second, .unset, .unset, .unset, .unset, .unset, .unset, .unset, .unset, .unset, .unset, .unset, .unset, .unset] [(.long lg)])) _
    refine XS.lstore X0.here hx rfl (hb hby at_47) rfl (l' := #[.val (.int p1), .val (.long q2), .second, .val (.long q3), .second, .val (.long q4), .second, .val (.int p5), .val (.int p6), .val (.int wl), .val (.long mm), .second, .val (.long lw), .second, .val (.long lg), .second, .unset, .unset, .unset, .unset, .unset, .unset, .unset, .unset, .unset, .unset, .unset]) rfl ?_
    show Steps p.tables e below (s₁.setTop (mkF m 49 #[.val (.int p1), .val (.long q2), .second, .val (.long q3), .second, .val (.long q4), .second, .val (.int p5), .val (.int p6), .val (.int wl), .val (.long mm), .second, .val (.long lw), .second, .val (.long lg), .second, .unset, .unset, .unset, .unset, .unset, .unset, .unset, .unset, .unset, .unset, .unset] [])) _
    refine X0.ldcInt hx hown (mvT hZ (hw _ (List.mem_of_getElem? (i := 1) rfl))) (g := (mkF m 49 #[.val (.int p1), .val (.long q2), .second, .val (.long q3), .second, .val (.long q4), .second, .val (.int p5), .val (.int p6), .val (.int wl), .val (.long mm), .second, .val (.long lw), .second, .val (.long lg), .second, .unset, .unset, .unset, .unset, .unset, .unset, .unset, .unset, .unset, .unset, .unset] [])) rfl (hb hby at_49) _ ?_
    show Steps p.tables e below (s₁.setTop (mkF m 51 #[.val (.int p1), .val (.long q2), .second, .val (.long q3), .second, .val (.long q4), .second, .val (.int p5), .val (.int p6), .val (.int wl), .val (.long mm), .second, .val (.long lw), .second, .val (.long lg), .second, .unset, .unset, .unset, .unset, .unset, .unset, .unset, .unset, .unset, .unset, .unset] [(.int (524288 : Int32))])) _
    refine XS.iload X0.here hx rfl (hb hby at_51) rfl ?_
    show Steps p.tables e below (s₁.setTop (mkF m 53 #[.val (.int p1), .val (.long q2), .second, .val (.long q3), .second, .val (.long q4), .second, .val (.int p5), .val (.int p6), .val (.int wl), .val (.long mm), .second, .val (.long lw), .second, .val (.long lg), .second, .unset, .unset, .unset, .unset, .unset, .unset, .unset, .unset, .unset, .unset, .unset] [(.int wl), (.int (524288 : Int32))])) _
    refine XS.idiv X0.here hx rfl (hb hby at_53) rfl (fun q => by rw [q] at hwl; exact absurd hwl.1 (by decide)) ?_
    show Steps p.tables e below (s₁.setTop (mkF m 54 #[.val (.int p1), .val (.long q2), .second, .val (.long q3), .second, .val (.long q4), .second, .val (.int p5), .val (.int p6), .val (.int wl), .val (.long mm), .second, .val (.long lw), .second, .val (.long lg), .second, .unset, .unset, .unset, .unset, .unset, .unset, .unset, .unset, .unset, .unset, .unset] [(.int ((524288 : Int32) / wl))])) _
    refine XS.iconst X0.here hx rfl (hb hby at_54) ?_
    show Steps p.tables e below (s₁.setTop (mkF m 55 #[.val (.int p1), .val (.long q2), .second, .val (.long q3), .second, .val (.long q4), .second, .val (.int p5), .val (.int p6), .val (.int wl), .val (.long mm), .second, .val (.long lw), .second, .val (.long lg), .second, .unset, .unset, .unset, .unset, .unset, .unset, .unset, .unset, .unset, .unset, .unset] [(.int (2 : Int32)), (.int ((524288 : Int32) / wl))])) _
    refine XS.iadd X0.here hx rfl (hb hby at_55) rfl ?_
    show Steps p.tables e below (s₁.setTop (mkF m 56 #[.val (.int p1), .val (.long q2), .second, .val (.long q3), .second, .val (.long q4), .second, .val (.int p5), .val (.int p6), .val (.int wl), .val (.long mm), .second, .val (.long lw), .second, .val (.long lg), .second, .unset, .unset, .unset, .unset, .unset, .unset, .unset, .unset, .unset, .unset, .unset] [(.int (((524288 : Int32) / wl) + (2 : Int32)))])) _
    exact k
  obtain ⟨sz, h_sz⟩ : ∃ z : Int32, z = (((524288 : Int32) / wl) + (2 : Int32)) := ⟨_, rfl⟩
  have K12 : ∀ t, Steps p.tables e below (s₁.setTop (mkF m 56 #[.val (.int p1), .val (.long q2), .second, .val (.long q3), .second, .val (.long q4), .second, .val (.int p5), .val (.int p6), .val (.int wl), .val (.long mm), .second, .val (.long lw), .second, .val (.long lg), .second, .unset, .unset, .unset, .unset, .unset, .unset, .unset, .unset, .unset, .unset, .unset] [(.int sz)])) t → Steps p.tables e below G t := by rw [h_sz]; exact K11
  have hsz := own_szv hwl h_sz
  have hs3 : 3 ≤ sz.toInt ∧ sz.toInt ≤ 524290 := ⟨hsz.1, hsz.2.1⟩
  have K13 : ∀ t, Steps p.tables e below (s₁.setTop (mkF m 67 #[.val (.int p1), .val (.long q2), .second, .val (.long q3), .second, .val (.long q4), .second, .val (.int p5), .val (.int p6), .val (.int wl), .val (.long mm), .second, .val (.long lw), .second, .val (.long lg), .second, .val (.int sz), .unset, .unset, .unset, .unset, .unset, .unset, .unset, .unset, .unset, .unset] [(.long lg), (.long lw), (.long mm), (.int wl), (.long q3)])) t → Steps p.tables e below G t := by
    intro t k
    refine K12 t ?_
    show Steps p.tables e below (s₁.setTop (mkF m 56 #[.val (.int p1), .val (.long q2), .second, .val (.long q3), .second, .val (.long q4), .second, .val (.int p5), .val (.int p6), .val (.int wl), .val (.long mm), .second, .val (.long lw), .second, .val (.long lg), .second, .unset, .unset, .unset, .unset, .unset, .unset, .unset, .unset, .unset, .unset, .unset] [(.int sz)])) _
    refine XS.istore X0.here hx rfl (hb hby at_56) rfl (l' := #[.val (.int p1), .val (.long q2), .second, .val (.long q3), .second, .val (.long q4), .second, .val (.int p5), .val (.int p6), .val (.int wl), .val (.long mm), .second, .val (.long lw), .second, .val (.long lg), .second, .val (.int sz), .unset, .unset, .unset, .unset, .unset, .unset, .unset, .unset, .unset, .unset]) rfl ?_
    show Steps p.tables e below (s₁.setTop (mkF m 58 #[.val (.int p1), .val (.long q2), .second, .val (.long q3), .second, .val (.long q4), .second, .val (.int p5), .val (.int p6), .val (.int wl), .val (.long mm), .second, .val (.long lw), .second, .val (.long lg), .second, .val (.int sz), .unset, .unset, .unset, .unset, .unset, .unset, .unset, .unset, .unset, .unset] [])) _
    refine XS.lloadN X0.here hx rfl (hb hby at_58) rfl ?_
    show Steps p.tables e below (s₁.setTop (mkF m 59 #[.val (.int p1), .val (.long q2), .second, .val (.long q3), .second, .val (.long q4), .second, .val (.int p5), .val (.int p6), .val (.int wl), .val (.long mm), .second, .val (.long lw), .second, .val (.long lg), .second, .val (.int sz), .unset, .unset, .unset, .unset, .unset, .unset, .unset, .unset, .unset, .unset] [(.long q3)])) _
    refine XS.iload X0.here hx rfl (hb hby at_59) rfl ?_
    show Steps p.tables e below (s₁.setTop (mkF m 61 #[.val (.int p1), .val (.long q2), .second, .val (.long q3), .second, .val (.long q4), .second, .val (.int p5), .val (.int p6), .val (.int wl), .val (.long mm), .second, .val (.long lw), .second, .val (.long lg), .second, .val (.int sz), .unset, .unset, .unset, .unset, .unset, .unset, .unset, .unset, .unset, .unset] [(.int wl), (.long q3)])) _
    refine XS.lload X0.here hx rfl (hb hby at_61) rfl ?_
    show Steps p.tables e below (s₁.setTop (mkF m 63 #[.val (.int p1), .val (.long q2), .second, .val (.long q3), .second, .val (.long q4), .second, .val (.int p5), .val (.int p6), .val (.int wl), .val (.long mm), .second, .val (.long lw), .second, .val (.long lg), .second, .val (.int sz), .unset, .unset, .unset, .unset, .unset, .unset, .unset, .unset, .unset, .unset] [(.long mm), (.int wl), (.long q3)])) _
    refine XS.lload X0.here hx rfl (hb hby at_63) rfl ?_
    show Steps p.tables e below (s₁.setTop (mkF m 65 #[.val (.int p1), .val (.long q2), .second, .val (.long q3), .second, .val (.long q4), .second, .val (.int p5), .val (.int p6), .val (.int wl), .val (.long mm), .second, .val (.long lw), .second, .val (.long lg), .second, .val (.int sz), .unset, .unset, .unset, .unset, .unset, .unset, .unset, .unset, .unset, .unset] [(.long lw), (.long mm), (.int wl), (.long q3)])) _
    refine XS.lload X0.here hx rfl (hb hby at_65) rfl ?_
    show Steps p.tables e below (s₁.setTop (mkF m 67 #[.val (.int p1), .val (.long q2), .second, .val (.long q3), .second, .val (.long q4), .second, .val (.int p5), .val (.int p6), .val (.int wl), .val (.long mm), .second, .val (.long lw), .second, .val (.long lg), .second, .val (.int sz), .unset, .unset, .unset, .unset, .unset, .unset, .unset, .unset, .unset, .unset] [(.long lg), (.long lw), (.long mm), (.int wl), (.long q3)])) _
    exact k
  obtain ⟨_, _, ⟨T14, L14, kk14, nn14⟩, -, X14, ⟨Lc14, hQ14, lq14, yq14, zq14⟩, st14⟩ := Jvm.LawKit.callS X0 hx (y := (⟨"com/example/holdover/holdover/analysis/FixedWidthLongsGetPinLaw", "fit", "(JIJJJ)J"⟩ : MethodName)) hown (mvT hZ (hw _ (List.mem_of_getElem? (i := 2) rfl))) (mvT hZ (hw _ (List.mem_of_getElem? (i := 3) rfl))) (mvT hZ (hw _ (List.mem_of_getElem? (i := 4) rfl))) (mvT hZ (hw _ (List.mem_of_getElem? (i := 5) rfl))) (by decide) (backOf (W := 0) (rm1 l Z a0 hw [] q3 wl mm lw lg h0 n0 Z0 ) hZ (hw _ (List.mem_of_getElem? (i := 5) rfl)) (hw _ (List.mem_of_getElem? (i := 4) rfl)) (by decide) (by decide)) (g := (mkF m 67 #[.val (.int p1), .val (.long q2), .second, .val (.long q3), .second, .val (.long q4), .second, .val (.int p5), .val (.int p6), .val (.int wl), .val (.long mm), .second, .val (.long lw), .second, .val (.long lg), .second, .val (.int sz), .unset, .unset, .unset, .unset, .unset, .unset, .unset, .unset, .unset, .unset] [(.long lg), (.long lw), (.long mm), (.int wl), (.long q3)])) rfl (by rw [hml]; rfl) (argsL := [(.long q3), (.int wl), (.long mm), (.long lw), (.long lg)]) (rest := []) (lenOf pd_7 rfl) rfl (by show 2 * 0 + _ ≤ _; exact Nat.le_of_eq rfl) (hb hby at_67) (fun _ _ => ⟨rfl, e0, (by decide : 0 + 0 ≤ _), (by decide : 0 + 0 ≤ _)⟩)
  dsimp only [Pt.U, Pt.locs, Pt.cells, Pt.slots] at X14 lq14 yq14 zq14 st14 hQ14
  subst lq14 yq14 zq14
  obtain ⟨rfl, Nq14, e14⟩ := hQ14
  have N15 := Fr.app N0 Nq14
  have K16 : ∀ t, Steps p.tables e below (T14.setTop (mkF m 70 #[.val (.int p1), .val (.long q2), .second, .val (.long q3), .second, .val (.long q4), .second, .val (.int p5), .val (.int p6), .val (.int wl), .val (.long mm), .second, .val (.long lw), .second, .val (.long lg), .second, .val (.int sz), .unset, .unset, .unset, .unset, .unset, .unset, .unset, .unset, .unset, .unset] [(.long (own_fit q3 wl mm lw lg))])) t → Steps p.tables e below G t := fun t k => K13 t (st14 _ k)
  obtain ⟨v1, h_v1⟩ : ∃ z : Int64, z = (own_fit q3 wl mm lw lg) := ⟨_, rfl⟩
  have K17 : ∀ t, Steps p.tables e below (T14.setTop (mkF m 70 #[.val (.int p1), .val (.long q2), .second, .val (.long q3), .second, .val (.long q4), .second, .val (.int p5), .val (.int p6), .val (.int wl), .val (.long mm), .second, .val (.long lw), .second, .val (.long lg), .second, .val (.int sz), .unset, .unset, .unset, .unset, .unset, .unset, .unset, .unset, .unset, .unset] [(.long v1)])) t → Steps p.tables e below G t := by rw [h_v1]; exact K16
  have K18 : ∀ t, Steps p.tables e below (T14.setTop (mkF m 82 #[.val (.int p1), .val (.long q2), .second, .val (.long q3), .second, .val (.long q4), .second, .val (.int p5), .val (.int p6), .val (.int wl), .val (.long mm), .second, .val (.long lw), .second, .val (.long lg), .second, .val (.int sz), .val (.long v1), .second, .unset, .unset, .unset, .unset, .unset, .unset, .unset, .unset] [(.long lg), (.long lw), (.long mm), (.int wl), (.long q4)])) t → Steps p.tables e below G t := by
    intro t k
    refine K17 t ?_
    show Steps p.tables e below (T14.setTop (mkF m 70 #[.val (.int p1), .val (.long q2), .second, .val (.long q3), .second, .val (.long q4), .second, .val (.int p5), .val (.int p6), .val (.int wl), .val (.long mm), .second, .val (.long lw), .second, .val (.long lg), .second, .val (.int sz), .unset, .unset, .unset, .unset, .unset, .unset, .unset, .unset, .unset, .unset] [(.long v1)])) _
    refine XS.lstore X14.here hx rfl (hb hby at_70) rfl (l' := #[.val (.int p1), .val (.long q2), .second, .val (.long q3), .second, .val (.long q4), .second, .val (.int p5), .val (.int p6), .val (.int wl), .val (.long mm), .second, .val (.long lw), .second, .val (.long lg), .second, .val (.int sz), .val (.long v1), .second, .unset, .unset, .unset, .unset, .unset, .unset, .unset, .unset]) rfl ?_
    show Steps p.tables e below (T14.setTop (mkF m 72 #[.val (.int p1), .val (.long q2), .second, .val (.long q3), .second, .val (.long q4), .second, .val (.int p5), .val (.int p6), .val (.int wl), .val (.long mm), .second, .val (.long lw), .second, .val (.long lg), .second, .val (.int sz), .val (.long v1), .second, .unset, .unset, .unset, .unset, .unset, .unset, .unset, .unset] [])) _
    refine XS.lload X14.here hx rfl (hb hby at_72) rfl ?_
    show Steps p.tables e below (T14.setTop (mkF m 74 #[.val (.int p1), .val (.long q2), .second, .val (.long q3), .second, .val (.long q4), .second, .val (.int p5), .val (.int p6), .val (.int wl), .val (.long mm), .second, .val (.long lw), .second, .val (.long lg), .second, .val (.int sz), .val (.long v1), .second, .unset, .unset, .unset, .unset, .unset, .unset, .unset, .unset] [(.long q4)])) _
    refine XS.iload X14.here hx rfl (hb hby at_74) rfl ?_
    show Steps p.tables e below (T14.setTop (mkF m 76 #[.val (.int p1), .val (.long q2), .second, .val (.long q3), .second, .val (.long q4), .second, .val (.int p5), .val (.int p6), .val (.int wl), .val (.long mm), .second, .val (.long lw), .second, .val (.long lg), .second, .val (.int sz), .val (.long v1), .second, .unset, .unset, .unset, .unset, .unset, .unset, .unset, .unset] [(.int wl), (.long q4)])) _
    refine XS.lload X14.here hx rfl (hb hby at_76) rfl ?_
    show Steps p.tables e below (T14.setTop (mkF m 78 #[.val (.int p1), .val (.long q2), .second, .val (.long q3), .second, .val (.long q4), .second, .val (.int p5), .val (.int p6), .val (.int wl), .val (.long mm), .second, .val (.long lw), .second, .val (.long lg), .second, .val (.int sz), .val (.long v1), .second, .unset, .unset, .unset, .unset, .unset, .unset, .unset, .unset] [(.long mm), (.int wl), (.long q4)])) _
    refine XS.lload X14.here hx rfl (hb hby at_78) rfl ?_
    show Steps p.tables e below (T14.setTop (mkF m 80 #[.val (.int p1), .val (.long q2), .second, .val (.long q3), .second, .val (.long q4), .second, .val (.int p5), .val (.int p6), .val (.int wl), .val (.long mm), .second, .val (.long lw), .second, .val (.long lg), .second, .val (.int sz), .val (.long v1), .second, .unset, .unset, .unset, .unset, .unset, .unset, .unset, .unset] [(.long lw), (.long mm), (.int wl), (.long q4)])) _
    refine XS.lload X14.here hx rfl (hb hby at_80) rfl ?_
    show Steps p.tables e below (T14.setTop (mkF m 82 #[.val (.int p1), .val (.long q2), .second, .val (.long q3), .second, .val (.long q4), .second, .val (.int p5), .val (.int p6), .val (.int wl), .val (.long mm), .second, .val (.long lw), .second, .val (.long lg), .second, .val (.int sz), .val (.long v1), .second, .unset, .unset, .unset, .unset, .unset, .unset, .unset, .unset] [(.long lg), (.long lw), (.long mm), (.int wl), (.long q4)])) _
    exact k
  obtain ⟨_, _, ⟨T19, L19, kk19, nn19⟩, -, X19, ⟨Lc19, hQ19, lq19, yq19, zq19⟩, st19⟩ := Jvm.LawKit.callS X14 hx (y := (⟨"com/example/holdover/holdover/analysis/FixedWidthLongsGetPinLaw", "fit", "(JIJJJ)J"⟩ : MethodName)) hown (mvT hZ (hw _ (List.mem_of_getElem? (i := 2) rfl))) (mvT hZ (hw _ (List.mem_of_getElem? (i := 3) rfl))) (mvT hZ (hw _ (List.mem_of_getElem? (i := 4) rfl))) (mvT hZ (hw _ (List.mem_of_getElem? (i := 5) rfl))) (by decide) (backOf (W := 0) (rm1 l Z a0 hw [] q4 wl mm lw lg h0 n0 Z0 ) hZ (hw _ (List.mem_of_getElem? (i := 5) rfl)) (hw _ (List.mem_of_getElem? (i := 4) rfl)) (by decide) (by decide)) (g := (mkF m 82 #[.val (.int p1), .val (.long q2), .second, .val (.long q3), .second, .val (.long q4), .second, .val (.int p5), .val (.int p6), .val (.int wl), .val (.long mm), .second, .val (.long lw), .second, .val (.long lg), .second, .val (.int sz), .val (.long v1), .second, .unset, .unset, .unset, .unset, .unset, .unset, .unset, .unset] [(.long lg), (.long lw), (.long mm), (.int wl), (.long q4)])) rfl (by rw [hml]; rfl) (argsL := [(.long q4), (.int wl), (.long mm), (.long lw), (.long lg)]) (rest := []) (lenOf pd_7 rfl) rfl (by show 2 * 0 + _ ≤ _; exact Nat.le_of_eq rfl) (hb hby at_82) (fun _ _ => ⟨rfl, e14, (by decide : 0 + 0 ≤ _), (by decide : 0 + 0 ≤ _)⟩)
  dsimp only [Pt.U, Pt.locs, Pt.cells, Pt.slots] at X19 lq19 yq19 zq19 st19 hQ19
  subst lq19 yq19 zq19
  obtain ⟨rfl, Nq19, e19⟩ := hQ19
  have N20 := Fr.app N15 Nq19
  have K21 : ∀ t, Steps p.tables e below (T19.setTop (mkF m 85 #[.val (.int p1), .val (.long q2), .second, .val (.long q3), .second, .val (.long q4), .second, .val (.int p5), .val (.int p6), .val (.int wl), .val (.long mm), .second, .val (.long lw), .second, .val (.long lg), .second, .val (.int sz), .val (.long v1), .second, .unset, .unset, .unset, .unset, .unset, .unset, .unset, .unset] [(.long (own_fit q4 wl mm lw lg))])) t → Steps p.tables e below G t := fun t k => K18 t (st19 _ k)
  obtain ⟨v2, h_v2⟩ : ∃ z : Int64, z = (own_fit q4 wl mm lw lg) := ⟨_, rfl⟩
  have K22 : ∀ t, Steps p.tables e below (T19.setTop (mkF m 85 #[.val (.int p1), .val (.long q2), .second, .val (.long q3), .second, .val (.long q4), .second, .val (.int p5), .val (.int p6), .val (.int wl), .val (.long mm), .second, .val (.long lw), .second, .val (.long lg), .second, .val (.int sz), .val (.long v1), .second, .unset, .unset, .unset, .unset, .unset, .unset, .unset, .unset] [(.long v2)])) t → Steps p.tables e below G t := by rw [h_v2]; exact K21
  have K23 : ∀ t, Steps p.tables e below (T19.setTop (mkF m 95 #[.val (.int p1), .val (.long q2), .second, .val (.long q3), .second, .val (.long q4), .second, .val (.int p5), .val (.int p6), .val (.int wl), .val (.long mm), .second, .val (.long lw), .second, .val (.long lg), .second, .val (.int sz), .val (.long v1), .second, .val (.long v2), .second, .unset, .unset, .unset, .unset, .unset, .unset] [(.int ((p5 &&& (2147483647 : Int32)) % sz))])) t → Steps p.tables e below G t := by
    intro t k
    refine K22 t ?_
    show Steps p.tables e below (T19.setTop (mkF m 85 #[.val (.int p1), .val (.long q2), .second, .val (.long q3), .second, .val (.long q4), .second, .val (.int p5), .val (.int p6), .val (.int wl), .val (.long mm), .second, .val (.long lw), .second, .val (.long lg), .second, .val (.int sz), .val (.long v1), .second, .unset, .unset, .unset, .unset, .unset, .unset, .unset, .unset] [(.long v2)])) _
    refine XS.lstore X19.here hx rfl (hb hby at_85) rfl (l' := #[.val (.int p1), .val (.long q2), .second, .val (.long q3), .second, .val (.long q4), .second, .val (.int p5), .val (.int p6), .val (.int wl), .val (.long mm), .second, .val (.long lw), .second, .val (.long lg), .second, .val (.int sz), .val (.long v1), .second, .val (.long v2), .second, .unset, .unset, .unset, .unset, .unset, .unset]) rfl ?_
    show Steps p.tables e below (T19.setTop (mkF m 87 #[.val (.int p1), .val (.long q2), .second, .val (.long q3), .second, .val (.long q4), .second, .val (.int p5), .val (.int p6), .val (.int wl), .val (.long mm), .second, .val (.long lw), .second, .val (.long lg), .second, .val (.int sz), .val (.long v1), .second, .val (.long v2), .second, .unset, .unset, .unset, .unset, .unset, .unset] [])) _
    refine XS.iload X19.here hx rfl (hb hby at_87) rfl ?_
    show Steps p.tables e below (T19.setTop (mkF m 89 #[.val (.int p1), .val (.long q2), .second, .val (.long q3), .second, .val (.long q4), .second, .val (.int p5), .val (.int p6), .val (.int wl), .val (.long mm), .second, .val (.long lw), .second, .val (.long lg), .second, .val (.int sz), .val (.long v1), .second, .val (.long v2), .second, .unset, .unset, .unset, .unset, .unset, .unset] [(.int p5)])) _
    refine X19.ldcInt hx hown (mvT hZ (hw _ (List.mem_of_getElem? (i := 6) rfl))) (g := (mkF m 89 #[.val (.int p1), .val (.long q2), .second, .val (.long q3), .second, .val (.long q4), .second, .val (.int p5), .val (.int p6), .val (.int wl), .val (.long mm), .second, .val (.long lw), .second, .val (.long lg), .second, .val (.int sz), .val (.long v1), .second, .val (.long v2), .second, .unset, .unset, .unset, .unset, .unset, .unset] [(.int p5)])) rfl (hb hby at_89) _ ?_
    show Steps p.tables e below (T19.setTop (mkF m 91 #[.val (.int p1), .val (.long q2), .second, .val (.long q3), .second, .val (.long q4), .second, .val (.int p5), .val (.int p6), .val (.int wl), .val (.long mm), .second, .val (.long lw), .second, .val (.long lg), .second, .val (.int sz), .val (.long v1), .second, .val (.long v2), .second, .unset, .unset, .unset, .unset, .unset, .unset] [(.int (2147483647 : Int32)), (.int p5)])) _
    refine XS.iand X19.here hx rfl (hb hby at_91) rfl ?_
    show Steps p.tables e below (T19.setTop (mkF m 92 #[.val (.int p1), .val (.long q2), .second, .val (.long q3), .second, .val (.long q4), .second, .val (.int p5), .val (.int p6), .val (.int wl), .val (.long mm), .second, .val (.long lw), .second, .val (.long lg), .second, .val (.int sz), .val (.long v1), .second, .val (.long v2), .second, .unset, .unset, .unset, .unset, .unset, .unset] [(.int (p5 &&& (2147483647 : Int32)))])) _
    refine XS.iload X19.here hx rfl (hb hby at_92) rfl ?_
    show Steps p.tables e below (T19.setTop (mkF m 94 #[.val (.int p1), .val (.long q2), .second, .val (.long q3), .second, .val (.long q4), .second, .val (.int p5), .val (.int p6), .val (.int wl), .val (.long mm), .second, .val (.long lw), .second, .val (.long lg), .second, .val (.int sz), .val (.long v1), .second, .val (.long v2), .second, .unset, .unset, .unset, .unset, .unset, .unset] [(.int sz), (.int (p5 &&& (2147483647 : Int32)))])) _
    refine iremM X19 hx rfl (hb hby at_94) rfl (fun q => by rw [q] at hs3; exact absurd hs3.1 (by decide)) ?_
    show Steps p.tables e below (T19.setTop (mkF m 95 #[.val (.int p1), .val (.long q2), .second, .val (.long q3), .second, .val (.long q4), .second, .val (.int p5), .val (.int p6), .val (.int wl), .val (.long mm), .second, .val (.long lw), .second, .val (.long lg), .second, .val (.int sz), .val (.long v1), .second, .val (.long v2), .second, .unset, .unset, .unset, .unset, .unset, .unset] [(.int ((p5 &&& (2147483647 : Int32)) % sz))])) _
    exact k
  obtain ⟨av, h_av⟩ : ∃ z : Int32, z = ((p5 &&& (2147483647 : Int32)) % sz) := ⟨_, rfl⟩
  have K24 : ∀ t, Steps p.tables e below (T19.setTop (mkF m 95 #[.val (.int p1), .val (.long q2), .second, .val (.long q3), .second, .val (.long q4), .second, .val (.int p5), .val (.int p6), .val (.int wl), .val (.long mm), .second, .val (.long lw), .second, .val (.long lg), .second, .val (.int sz), .val (.long v1), .second, .val (.long v2), .second, .unset, .unset, .unset, .unset, .unset, .unset] [(.int av)])) t → Steps p.tables e below G t := by rw [h_av]; exact K23
  have hav := own_idx hs3 h_av
  have K25 : ∀ t, Steps p.tables e below (T19.setTop (mkF m 103 #[.val (.int p1), .val (.long q2), .second, .val (.long q3), .second, .val (.long q4), .second, .val (.int p5), .val (.int p6), .val (.int wl), .val (.long mm), .second, .val (.long lw), .second, .val (.long lg), .second, .val (.int sz), .val (.long v1), .second, .val (.long v2), .second, .val (.int av), .unset, .unset, .unset, .unset, .unset] [(.int sz), (.int (av + (1 : Int32)))])) t → Steps p.tables e below G t := by
    intro t k
    refine K24 t ?_
    show Steps p.tables e below (T19.setTop (mkF m 95 #[.val (.int p1), .val (.long q2), .second, .val (.long q3), .second, .val (.long q4), .second, .val (.int p5), .val (.int p6), .val (.int wl), .val (.long mm), .second, .val (.long lw), .second, .val (.long lg), .second, .val (.int sz), .val (.long v1), .second, .val (.long v2), .second, .unset, .unset, .unset, .unset, .unset, .unset] [(.int av)])) _
    refine XS.istore X19.here hx rfl (hb hby at_95) rfl (l' := #[.val (.int p1), .val (.long q2), .second, .val (.long q3), .second, .val (.long q4), .second, .val (.int p5), .val (.int p6), .val (.int wl), .val (.long mm), .second, .val (.long lw), .second, .val (.long lg), .second, .val (.int sz), .val (.long v1), .second, .val (.long v2), .second, .val (.int av), .unset, .unset, .unset, .unset, .unset]) rfl ?_
    show Steps p.tables e below (T19.setTop (mkF m 97 #[.val (.int p1), .val (.long q2), .second, .val (.long q3), .second, .val (.long q4), .second, .val (.int p5), .val (.int p6), .val (.int wl), .val (.long mm), .second, .val (.long lw), .second, .val (.long lg), .second, .val (.int sz), .val (.long v1), .second, .val (.long v2), .second, .val (.int av), .unset, .unset, .unset, .unset, .unset] [])) _
    refine XS.iload X19.here hx rfl (hb hby at_97) rfl ?_
    show Steps p.tables e below (T19.setTop (mkF m 99 #[.val (.int p1), .val (.long q2), .second, .val (.long q3), .second, .val (.long q4), .second, .val (.int p5), .val (.int p6), .val (.int wl), .val (.long mm), .second, .val (.long lw), .second, .val (.long lg), .second, .val (.int sz), .val (.long v1), .second, .val (.long v2), .second, .val (.int av), .unset, .unset, .unset, .unset, .unset] [(.int av)])) _
    refine XS.iconst X19.here hx rfl (hb hby at_99) ?_
    show Steps p.tables e below (T19.setTop (mkF m 100 #[.val (.int p1), .val (.long q2), .second, .val (.long q3), .second, .val (.long q4), .second, .val (.int p5), .val (.int p6), .val (.int wl), .val (.long mm), .second, .val (.long lw), .second, .val (.long lg), .second, .val (.int sz), .val (.long v1), .second, .val (.long v2), .second, .val (.int av), .unset, .unset, .unset, .unset, .unset] [(.int (1 : Int32)), (.int av)])) _
    refine XS.iadd X19.here hx rfl (hb hby at_100) rfl ?_
    show Steps p.tables e below (T19.setTop (mkF m 101 #[.val (.int p1), .val (.long q2), .second, .val (.long q3), .second, .val (.long q4), .second, .val (.int p5), .val (.int p6), .val (.int wl), .val (.long mm), .second, .val (.long lw), .second, .val (.long lg), .second, .val (.int sz), .val (.long v1), .second, .val (.long v2), .second, .val (.int av), .unset, .unset, .unset, .unset, .unset] [(.int (av + (1 : Int32)))])) _
    refine XS.iload X19.here hx rfl (hb hby at_101) rfl ?_
    show Steps p.tables e below (T19.setTop (mkF m 103 #[.val (.int p1), .val (.long q2), .second, .val (.long q3), .second, .val (.long q4), .second, .val (.int p5), .val (.int p6), .val (.int wl), .val (.long mm), .second, .val (.long lw), .second, .val (.long lg), .second, .val (.int sz), .val (.long v1), .second, .val (.long v2), .second, .val (.int av), .unset, .unset, .unset, .unset, .unset] [(.int sz), (.int (av + (1 : Int32)))])) _
    exact k
  have K27 : ∀ t, Steps p.tables e below (T19.setTop (mkF m 117 #[.val (.int p1), .val (.long q2), .second, .val (.long q3), .second, .val (.long q4), .second, .val (.int p5), .val (.int p6), .val (.int wl), .val (.long mm), .second, .val (.long lw), .second, .val (.long lg), .second, .val (.int sz), .val (.long v1), .second, .val (.long v2), .second, .val (.int av), .unset, .unset, .unset, .unset, .unset] [(.int (if (av + (1 : Int32)) < sz then (av + (1 : Int32)) else (av - (1 : Int32))))])) t → Steps p.tables e below G t := by
    intro t k
    refine K25 t ?_
    by_cases hc26 : (av + (1 : Int32)) < sz
    · show Steps p.tables e below (T19.setTop (mkF m 103 #[.val (.int p1), .val (.long q2), .second, .val (.long q3), .second, .val (.long q4), .second, .val (.int p5), .val (.int p6), .val (.int wl), .val (.long mm), .second, .val (.long lw), .second, .val (.long lg), .second, .val (.int sz), .val (.long v1), .second, .val (.long v2), .second, .val (.int av), .unset, .unset, .unset, .unset, .unset] [(.int sz), (.int (av + (1 : Int32)))])) _
      refine XS.icmpNo X19.here hx rfl (hb hby at_103) rfl (tlt hc26).2.1 ?_
      show Steps p.tables e below (T19.setTop (mkF m 106 #[.val (.int p1), .val (.long q2), .second, .val (.long q3), .second, .val (.long q4), .second, .val (.int p5), .val (.int p6), .val (.int wl), .val (.long mm), .second, .val (.long lw), .second, .val (.long lg), .second, .val (.int sz), .val (.long v1), .second, .val (.long v2), .second, .val (.int av), .unset, .unset, .unset, .unset, .unset] [])) _
      refine XS.iload X19.here hx rfl (hb hby at_106) rfl ?_
      show Steps p.tables e below (T19.setTop (mkF m 108 #[.val (.int p1), .val (.long q2), .second, .val (.long q3), .second, .val (.long q4), .second, .val (.int p5), .val (.int p6), .val (.int wl), .val (.long mm), .second, .val (.long lw), .second, .val (.long lg), .second, .val (.int sz), .val (.long v1), .second, .val (.long v2), .second, .val (.int av), .unset, .unset, .unset, .unset, .unset] [(.int av)])) _
      refine XS.iconst X19.here hx rfl (hb hby at_108) ?_
      show Steps p.tables e below (T19.setTop (mkF m 109 #[.val (.int p1), .val (.long q2), .second, .val (.long q3), .second, .val (.long q4), .second, .val (.int p5), .val (.int p6), .val (.int wl), .val (.long mm), .second, .val (.long lw), .second, .val (.long lg), .second, .val (.int sz), .val (.long v1), .second, .val (.long v2), .second, .val (.int av), .unset, .unset, .unset, .unset, .unset] [(.int (1 : Int32)), (.int av)])) _
      refine XS.iadd X19.here hx rfl (hb hby at_109) rfl ?_
      show Steps p.tables e below (T19.setTop (mkF m 110 #[.val (.int p1), .val (.long q2), .second, .val (.long q3), .second, .val (.long q4), .second, .val (.int p5), .val (.int p6), .val (.int wl), .val (.long mm), .second, .val (.long lw), .second, .val (.long lg), .second, .val (.int sz), .val (.long v1), .second, .val (.long v2), .second, .val (.int av), .unset, .unset, .unset, .unset, .unset] [(.int (av + (1 : Int32)))])) _
      refine XS.goto X19.here hx rfl (pc0 := 110) (pc' := 117) rfl (hb hby at_110) (by decide) (by decide) ?_
      show Steps p.tables e below (T19.setTop (mkF m 117 #[.val (.int p1), .val (.long q2), .second, .val (.long q3), .second, .val (.long q4), .second, .val (.int p5), .val (.int p6), .val (.int wl), .val (.long mm), .second, .val (.long lw), .second, .val (.long lg), .second, .val (.int sz), .val (.long v1), .second, .val (.long v2), .second, .val (.int av), .unset, .unset, .unset, .unset, .unset] [(.int (av + (1 : Int32)))])) _
      simp only [if_pos hc26] at k
      exact k
    · show Steps p.tables e below (T19.setTop (mkF m 103 #[.val (.int p1), .val (.long q2), .second, .val (.long q3), .second, .val (.long q4), .second, .val (.int p5), .val (.int p6), .val (.int wl), .val (.long mm), .second, .val (.long lw), .second, .val (.long lg), .second, .val (.int sz), .val (.long v1), .second, .val (.long v2), .second, .val (.int av), .unset, .unset, .unset, .unset, .unset] [(.int sz), (.int (av + (1 : Int32)))])) _
      refine XS.icmpYes X19.here hx rfl (pc0 := 103) (pc' := 113) rfl (hb hby at_103) rfl (flt hc26).2.1 (by decide) (by decide) ?_
      show Steps p.tables e below (T19.setTop (mkF m 113 #[.val (.int p1), .val (.long q2), .second, .val (.long q3), .second, .val (.long q4), .second, .val (.int p5), .val (.int p6), .val (.int wl), .val (.long mm), .second, .val (.long lw), .second, .val (.long lg), .second, .val (.int sz), .val (.long v1), .second, .val (.long v2), .second, .val (.int av), .unset, .unset, .unset, .unset, .unset] [])) _
      refine XS.iload X19.here hx rfl (hb hby at_113) rfl ?_
      show Steps p.tables e below (T19.setTop (mkF m 115 #[.val (.int p1), .val (.long q2), .second, .val (.long q3), .second, .val (.long q4), .second, .val (.int p5), .val (.int p6), .val (.int wl), .val (.long mm), .second, .val (.long lw), .second, .val (.long lg), .second, .val (.int sz), .val (.long v1), .second, .val (.long v2), .second, .val (.int av), .unset, .unset, .unset, .unset, .unset] [(.int av)])) _
      refine XS.iconst X19.here hx rfl (hb hby at_115) ?_
      show Steps p.tables e below (T19.setTop (mkF m 116 #[.val (.int p1), .val (.long q2), .second, .val (.long q3), .second, .val (.long q4), .second, .val (.int p5), .val (.int p6), .val (.int wl), .val (.long mm), .second, .val (.long lw), .second, .val (.long lg), .second, .val (.int sz), .val (.long v1), .second, .val (.long v2), .second, .val (.int av), .unset, .unset, .unset, .unset, .unset] [(.int (1 : Int32)), (.int av)])) _
      refine XS.isub X19.here hx rfl (hb hby at_116) rfl ?_
      show Steps p.tables e below (T19.setTop (mkF m 117 #[.val (.int p1), .val (.long q2), .second, .val (.long q3), .second, .val (.long q4), .second, .val (.int p5), .val (.int p6), .val (.int wl), .val (.long mm), .second, .val (.long lw), .second, .val (.long lg), .second, .val (.int sz), .val (.long v1), .second, .val (.long v2), .second, .val (.int av), .unset, .unset, .unset, .unset, .unset] [(.int (av - (1 : Int32)))])) _
      simp only [if_neg hc26] at k
      exact k
  obtain ⟨bv, h_bv⟩ : ∃ z : Int32, z = (if (av + (1 : Int32)) < sz then (av + (1 : Int32)) else (av - (1 : Int32))) := ⟨_, rfl⟩
  have K28 : ∀ t, Steps p.tables e below (T19.setTop (mkF m 117 #[.val (.int p1), .val (.long q2), .second, .val (.long q3), .second, .val (.long q4), .second, .val (.int p5), .val (.int p6), .val (.int wl), .val (.long mm), .second, .val (.long lw), .second, .val (.long lg), .second, .val (.int sz), .val (.long v1), .second, .val (.long v2), .second, .val (.int av), .unset, .unset, .unset, .unset, .unset] [(.int bv)])) t → Steps p.tables e below G t := by rw [h_bv]; exact K27
  have hbv' := own_nbr hs3 hav h_bv
  have hbv := hbv'
  have K29 : ∀ t, Steps p.tables e below (T19.setTop (mkF m 127 #[.val (.int p1), .val (.long q2), .second, .val (.long q3), .second, .val (.long q4), .second, .val (.int p5), .val (.int p6), .val (.int wl), .val (.long mm), .second, .val (.long lw), .second, .val (.long lg), .second, .val (.int sz), .val (.long v1), .second, .val (.long v2), .second, .val (.int av), .val (.int bv), .unset, .unset, .unset, .unset] [(.int ((p6 &&& (2147483647 : Int32)) % sz))])) t → Steps p.tables e below G t := by
    intro t k
    refine K28 t ?_
    show Steps p.tables e below (T19.setTop (mkF m 117 #[.val (.int p1), .val (.long q2), .second, .val (.long q3), .second, .val (.long q4), .second, .val (.int p5), .val (.int p6), .val (.int wl), .val (.long mm), .second, .val (.long lw), .second, .val (.long lg), .second, .val (.int sz), .val (.long v1), .second, .val (.long v2), .second, .val (.int av), .unset, .unset, .unset, .unset, .unset] [(.int bv)])) _
    refine XS.istore X19.here hx rfl (hb hby at_117) rfl (l' := #[.val (.int p1), .val (.long q2), .second, .val (.long q3), .second, .val (.long q4), .second, .val (.int p5), .val (.int p6), .val (.int wl), .val (.long mm), .second, .val (.long lw), .second, .val (.long lg), .second, .val (.int sz), .val (.long v1), .second, .val (.long v2), .second, .val (.int av), .val (.int bv), .unset, .unset, .unset, .unset]) rfl ?_
    show Steps p.tables e below (T19.setTop (mkF m 119 #[.val (.int p1), .val (.long q2), .second, .val (.long q3), .second, .val (.long q4), .second, .val (.int p5), .val (.int p6), .val (.int wl), .val (.long mm), .second, .val (.long lw), .second, .val (.long lg), .second, .val (.int sz), .val (.long v1), .second, .val (.long v2), .second, .val (.int av), .val (.int bv), .unset, .unset, .unset, .unset] [])) _
    refine XS.iload X19.here hx rfl (hb hby at_119) rfl ?_
    show Steps p.tables e below (T19.setTop (mkF m 121 #[.val (.int p1), .val (.long q2), .second, .val (.long q3), .second, .val (.long q4), .second, .val (.int p5), .val (.int p6), .val (.int wl), .val (.long mm), .second, .val (.long lw), .second, .val (.long lg), .second, .val (.int sz), .val (.long v1), .second, .val (.long v2), .second, .val (.int av), .val (.int bv), .unset, .unset, .unset, .unset] [(.int p6)])) _
    refine X19.ldcInt hx hown (mvT hZ (hw _ (List.mem_of_getElem? (i := 6) rfl))) (g := (mkF m 121 #[.val (.int p1), .val (.long q2), .second, .val (.long q3), .second, .val (.long q4), .second, .val (.int p5), .val (.int p6), .val (.int wl), .val (.long mm), .second, .val (.long lw), .second, .val (.long lg), .second, .val (.int sz), .val (.long v1), .second, .val (.long v2), .second, .val (.int av), .val (.int bv), .unset, .unset, .unset, .unset] [(.int p6)])) rfl (hb hby at_121) _ ?_
    show Steps p.tables e below (T19.setTop (mkF m 123 #[.val (.int p1), .val (.long q2), .second, .val (.long q3), .second, .val (.long q4), .second, .val (.int p5), .val (.int p6), .val (.int wl), .val (.long mm), .second, .val (.long lw), .second, .val (.long lg), .second, .val (.int sz), .val (.long v1), .second, .val (.long v2), .second, .val (.int av), .val (.int bv), .unset, .unset, .unset, .unset] [(.int (2147483647 : Int32)), (.int p6)])) _
    refine XS.iand X19.here hx rfl (hb hby at_123) rfl ?_
    show Steps p.tables e below (T19.setTop (mkF m 124 #[.val (.int p1), .val (.long q2), .second, .val (.long q3), .second, .val (.long q4), .second, .val (.int p5), .val (.int p6), .val (.int wl), .val (.long mm), .second, .val (.long lw), .second, .val (.long lg), .second, .val (.int sz), .val (.long v1), .second, .val (.long v2), .second, .val (.int av), .val (.int bv), .unset, .unset, .unset, .unset] [(.int (p6 &&& (2147483647 : Int32)))])) _
    refine XS.iload X19.here hx rfl (hb hby at_124) rfl ?_
    show Steps p.tables e below (T19.setTop (mkF m 126 #[.val (.int p1), .val (.long q2), .second, .val (.long q3), .second, .val (.long q4), .second, .val (.int p5), .val (.int p6), .val (.int wl), .val (.long mm), .second, .val (.long lw), .second, .val (.long lg), .second, .val (.int sz), .val (.long v1), .second, .val (.long v2), .second, .val (.int av), .val (.int bv), .unset, .unset, .unset, .unset] [(.int sz), (.int (p6 &&& (2147483647 : Int32)))])) _
    refine iremM X19 hx rfl (hb hby at_126) rfl (fun q => by rw [q] at hs3; exact absurd hs3.1 (by decide)) ?_
    show Steps p.tables e below (T19.setTop (mkF m 127 #[.val (.int p1), .val (.long q2), .second, .val (.long q3), .second, .val (.long q4), .second, .val (.int p5), .val (.int p6), .val (.int wl), .val (.long mm), .second, .val (.long lw), .second, .val (.long lg), .second, .val (.int sz), .val (.long v1), .second, .val (.long v2), .second, .val (.int av), .val (.int bv), .unset, .unset, .unset, .unset] [(.int ((p6 &&& (2147483647 : Int32)) % sz))])) _
    exact k
  obtain ⟨cv, h_cv⟩ : ∃ z : Int32, z = ((p6 &&& (2147483647 : Int32)) % sz) := ⟨_, rfl⟩
  have K30 : ∀ t, Steps p.tables e below (T19.setTop (mkF m 127 #[.val (.int p1), .val (.long q2), .second, .val (.long q3), .second, .val (.long q4), .second, .val (.int p5), .val (.int p6), .val (.int wl), .val (.long mm), .second, .val (.long lw), .second, .val (.long lg), .second, .val (.int sz), .val (.long v1), .second, .val (.long v2), .second, .val (.int av), .val (.int bv), .unset, .unset, .unset, .unset] [(.int cv)])) t → Steps p.tables e below G t := by rw [h_cv]; exact K29
  have hcv := own_idx hs3 h_cv
  have K31 : ∀ t, Steps p.tables e below (T19.setTop (mkF m 129 #[.val (.int p1), .val (.long q2), .second, .val (.long q3), .second, .val (.long q4), .second, .val (.int p5), .val (.int p6), .val (.int wl), .val (.long mm), .second, .val (.long lw), .second, .val (.long lg), .second, .val (.int sz), .val (.long v1), .second, .val (.long v2), .second, .val (.int av), .val (.int bv), .val (.int cv), .unset, .unset, .unset] [])) t → Steps p.tables e below G t := by
    intro t k
    refine K30 t ?_
    show Steps p.tables e below (T19.setTop (mkF m 127 #[.val (.int p1), .val (.long q2), .second, .val (.long q3), .second, .val (.long q4), .second, .val (.int p5), .val (.int p6), .val (.int wl), .val (.long mm), .second, .val (.long lw), .second, .val (.long lg), .second, .val (.int sz), .val (.long v1), .second, .val (.long v2), .second, .val (.int av), .val (.int bv), .unset, .unset, .unset, .unset] [(.int cv)])) _
    refine XS.istore X19.here hx rfl (hb hby at_127) rfl (l' := #[.val (.int p1), .val (.long q2), .second, .val (.long q3), .second, .val (.long q4), .second, .val (.int p5), .val (.int p6), .val (.int wl), .val (.long mm), .second, .val (.long lw), .second, .val (.long lg), .second, .val (.int sz), .val (.long v1), .second, .val (.long v2), .second, .val (.int av), .val (.int bv), .val (.int cv), .unset, .unset, .unset]) rfl ?_
    show Steps p.tables e below (T19.setTop (mkF m 129 #[.val (.int p1), .val (.long q2), .second, .val (.long q3), .second, .val (.long q4), .second, .val (.int p5), .val (.int p6), .val (.int wl), .val (.long mm), .second, .val (.long lw), .second, .val (.long lg), .second, .val (.int sz), .val (.long v1), .second, .val (.long v2), .second, .val (.int av), .val (.int bv), .val (.int cv), .unset, .unset, .unset] [])) _
    exact k
  have hw1 : 1 ≤ wl.toNatClampNeg := by have := own_nn (show 0 ≤ wl.toInt by omega); omega
  obtain ⟨T32, h32, X32, e32, E32, A32, D32, -, st32⟩ := newO X19 hx hZ hown (hw _ (List.mem_of_getElem? (i := 7) rfl)) (hw _ (List.mem_of_getElem? (i := 8) rfl)) (hw _ (List.mem_of_getElem? (i := 9) rfl)) e19 (g := (mkF m 129 #[.val (.int p1), .val (.long q2), .second, .val (.long q3), .second, .val (.long q4), .second, .val (.int p5), .val (.int p6), .val (.int wl), .val (.long mm), .second, .val (.long lw), .second, .val (.long lg), .second, .val (.int sz), .val (.long v1), .second, .val (.long v2), .second, .val (.int av), .val (.int bv), .val (.int cv), .unset, .unset, .unset] [])) rfl (hb hby at_129) (by decide) (by decide)
  obtain ⟨b32, g32⟩ : ∃ z, z = h0.size := ⟨_, rfl⟩
  rw [← g32] at A32 D32 st32
  have g_b32 : n0 ≤ b32 := Nat.le_trans Z0 (Nat.le_of_eq g32.symm)
  have sz_b32 : h0.size ≤ b32 := Nat.le_trans KP0.1 (Nat.le_of_eq g32.symm)
  have Z33 : n0 ≤ h32.size := Nat.le_trans Z0 E32.1
  have KP34 : Keep h0 h32 [] := KP0.ext E32
  have K35 : ∀ t, Steps p.tables e below (T32.setTop (mkF m 132 #[.val (.int p1), .val (.long q2), .second, .val (.long q3), .second, .val (.long q4), .second, .val (.int p5), .val (.int p6), .val (.int wl), .val (.long mm), .second, .val (.long lw), .second, .val (.long lg), .second, .val (.int sz), .val (.long v1), .second, .val (.long v2), .second, .val (.int av), .val (.int bv), .val (.int cv), .unset, .unset, .unset] [(.ref b32)])) t → Steps p.tables e below G t := fun t k => K31 t (st32 t k)
  have f36 : Fld Z h32 b32 "com/example/holdover/holdover/analysis/FixedWidthLongs" "size" "I" (.int (0 : Int32)) := D32 (Or.inr (hw _ (List.mem_of_getElem? (i := 20) rfl))) (ty := .int) (by decide)
  have f37 : Fld Z h32 b32 "com/example/holdover/holdover/analysis/FixedWidthLongs" "width" "I" (.int (0 : Int32)) := D32 (Or.inr (hw _ (List.mem_of_getElem? (i := 34) rfl))) (ty := .int) (by decide)
  have f38 : Fld Z h32 b32 "com/example/holdover/holdover/analysis/FixedWidthLongs" "mask" "J" (.long (0 : Int64)) := D32 (Or.inr (hw _ (List.mem_of_getElem? (i := 37) rfl))) (ty := .long) (by decide)
  have f39 : Fld Z h32 b32 "com/example/holdover/holdover/analysis/FixedWidthLongs" "pages" "[[J" .null := D32 (Or.inr (hw _ (List.mem_of_getElem? (i := 47) rfl))) (ty := (.array (.array .long))) (by decide)
  have K40 : ∀ t, Steps p.tables e below (T32.setTop (mkF m 137 #[.val (.int p1), .val (.long q2), .second, .val (.long q3), .second, .val (.long q4), .second, .val (.int p5), .val (.int p6), .val (.int wl), .val (.long mm), .second, .val (.long lw), .second, .val (.long lg), .second, .val (.int sz), .val (.long v1), .second, .val (.long v2), .second, .val (.int av), .val (.int bv), .val (.int cv), .unset, .unset, .unset] [(.long lg), (.int sz), (.ref b32), (.ref b32)])) t → Steps p.tables e below G t := by
    intro t k
    refine K35 t ?_
    show Steps p.tables e below (T32.setTop (mkF m 132 #[.val (.int p1), .val (.long q2), .second, .val (.long q3), .second, .val (.long q4), .second, .val (.int p5), .val (.int p6), .val (.int wl), .val (.long mm), .second, .val (.long lw), .second, .val (.long lg), .second, .val (.int sz), .val (.long v1), .second, .val (.long v2), .second, .val (.int av), .val (.int bv), .val (.int cv), .unset, .unset, .unset] [(.ref b32)])) _
    refine XS.dup X32.here hx rfl (hb hby at_132) rfl rfl ?_
    show Steps p.tables e below (T32.setTop (mkF m 133 #[.val (.int p1), .val (.long q2), .second, .val (.long q3), .second, .val (.long q4), .second, .val (.int p5), .val (.int p6), .val (.int wl), .val (.long mm), .second, .val (.long lw), .second, .val (.long lg), .second, .val (.int sz), .val (.long v1), .second, .val (.long v2), .second, .val (.int av), .val (.int bv), .val (.int cv), .unset, .unset, .unset] [(.ref b32), (.ref b32)])) _
    refine XS.iload X32.here hx rfl (hb hby at_133) rfl ?_
    show Steps p.tables e below (T32.setTop (mkF m 135 #[.val (.int p1), .val (.long q2), .second, .val (.long q3), .second, .val (.long q4), .second, .val (.int p5), .val (.int p6), .val (.int wl), .val (.long mm), .second, .val (.long lw), .second, .val (.long lg), .second, .val (.int sz), .val (.long v1), .second, .val (.long v2), .second, .val (.int av), .val (.int bv), .val (.int cv), .unset, .unset, .unset] [(.int sz), (.ref b32), (.ref b32)])) _
    refine XS.lload X32.here hx rfl (hb hby at_135) rfl ?_
    show Steps p.tables e below (T32.setTop (mkF m 137 #[.val (.int p1), .val (.long q2), .second, .val (.long q3), .second, .val (.long q4), .second, .val (.int p5), .val (.int p6), .val (.int wl), .val (.long mm), .second, .val (.long lw), .second, .val (.long lg), .second, .val (.int sz), .val (.long v1), .second, .val (.long v2), .second, .val (.int av), .val (.int bv), .val (.int cv), .unset, .unset, .unset] [(.long lg), (.int sz), (.ref b32), (.ref b32)])) _
    exact k
  obtain ⟨_, _, ⟨T41, L41, kk41, nn41⟩, -, X41, ⟨Lc41, hQ41, lq41, yq41, zq41⟩, st41⟩ := X32.specialBack hx (y := (⟨"com/example/holdover/holdover/analysis/FixedWidthLongs", "<init>", "(IJ)V"⟩ : MethodName)) rfl hown (mvT hZ (hw _ (List.mem_of_getElem? (i := 10) rfl))) (mvT hZ (hw _ (List.mem_of_getElem? (i := 11) rfl))) (mvT hZ (hw _ (List.mem_of_getElem? (i := 12) rfl))) (by decide) (backOf (W := 1) (rm2 l Z a0 hw [] b32 sz lg h32 n0 Z33 A32 f36 f37 f38 f39 g_b32 (by omega) (fun w h1 h2 h3 => Nat.le_trans (Nat.mul_le_mul_left _ (own_weq hw1 hlg.1 h3)) hsz.2.2)) hZ (hw _ (List.mem_of_getElem? (i := 12) rfl)) (hw _ (List.mem_of_getElem? (i := 9) rfl)) (by decide) (by decide)) (g := (mkF m 137 #[.val (.int p1), .val (.long q2), .second, .val (.long q3), .second, .val (.long q4), .second, .val (.int p5), .val (.int p6), .val (.int wl), .val (.long mm), .second, .val (.long lw), .second, .val (.long lg), .second, .val (.int sz), .val (.long v1), .second, .val (.long v2), .second, .val (.int av), .val (.int bv), .val (.int cv), .unset, .unset, .unset] [(.long lg), (.int sz), (.ref b32), (.ref b32)])) rfl (by rw [hml]; rfl) (Steps.refl _) (a := b32) (argsL := [(.int sz), (.long lg)]) (rest := [(.ref b32)]) (lenOf pd_8 rfl) rfl (by show 2 * 0 + _ ≤ _; exact Nat.le_of_eq rfl) (hb hby at_137) (fun _ _ => ⟨rfl, e32, (by decide : 1 + 3 ≤ _), (by decide : 4 + 16386 ≤ _)⟩)
  dsimp only [Pt.U, Pt.locs, Pt.cells, Pt.slots] at X41 lq41 yq41 zq41 st41 hQ41
  subst lq41 yq41 zq41
  obtain ⟨ps41, np41, P41, ln41, wd41, mk41, rfl, Nq41, SS41, Zq41, hwd, hm, hN1, hN2, hok⟩ := hQ41
  have N42 := Fr.app N20 Nq41
  have Ex41 := SS41.1
  have K43 : ∀ t, Steps p.tables e below (T41.setTop (mkF m 140 #[.val (.int p1), .val (.long q2), .second, .val (.long q3), .second, .val (.long q4), .second, .val (.int p5), .val (.int p6), .val (.int wl), .val (.long mm), .second, .val (.long lw), .second, .val (.long lg), .second, .val (.int sz), .val (.long v1), .second, .val (.long v2), .second, .val (.int av), .val (.int bv), .val (.int cv), .unset, .unset, .unset] [(.ref b32)])) t → Steps p.tables e below G t := fun t k => K40 t (st41.trans k)
  have K44 : ∀ t, Steps p.tables e below (T41.setTop (mkF m 142 #[.val (.int p1), .val (.long q2), .second, .val (.long q3), .second, .val (.long q4), .second, .val (.int p5), .val (.int p6), .val (.int wl), .val (.long mm), .second, .val (.long lw), .second, .val (.long lg), .second, .val (.int sz), .val (.long v1), .second, .val (.long v2), .second, .val (.int av), .val (.int bv), .val (.int cv), .val (.ref b32), .unset, .unset] [])) t → Steps p.tables e below G t := by
    intro t k
    refine K43 t ?_
    show Steps p.tables e below (T41.setTop (mkF m 140 #[.val (.int p1), .val (.long q2), .second, .val (.long q3), .second, .val (.long q4), .second, .val (.int p5), .val (.int p6), .val (.int wl), .val (.long mm), .second, .val (.long lw), .second, .val (.long lg), .second, .val (.int sz), .val (.long v1), .second, .val (.long v2), .second, .val (.int av), .val (.int bv), .val (.int cv), .unset, .unset, .unset] [(.ref b32)])) _
    refine XS.astore X41.here hx rfl (hb hby at_140) rfl rfl (l' := #[.val (.int p1), .val (.long q2), .second, .val (.long q3), .second, .val (.long q4), .second, .val (.int p5), .val (.int p6), .val (.int wl), .val (.long mm), .second, .val (.long lw), .second, .val (.long lg), .second, .val (.int sz), .val (.long v1), .second, .val (.long v2), .second, .val (.int av), .val (.int bv), .val (.int cv), .val (.ref b32), .unset, .unset]) rfl ?_
    show Steps p.tables e below (T41.setTop (mkF m 142 #[.val (.int p1), .val (.long q2), .second, .val (.long q3), .second, .val (.long q4), .second, .val (.int p5), .val (.int p6), .val (.int wl), .val (.long mm), .second, .val (.long lw), .second, .val (.long lg), .second, .val (.int sz), .val (.long v1), .second, .val (.long v2), .second, .val (.int av), .val (.int bv), .val (.int cv), .val (.ref b32), .unset, .unset] [])) _
    exact k
  have hw64 : wd41.toNatClampNeg ≤ 64 := by have := own_nn (show 0 ≤ wd41.toInt by omega); omega
  have hwe : wd41.toNatClampNeg = wl.toNatClampNeg := Nat.le_antisymm (own_weq hw1 hlg.1 hN2) (own_weq (by have := own_nn (show 0 ≤ wd41.toInt by omega); omega) hN1 hlg.2)
  have f_v1 : ∀ j, wd41.toNatClampNeg ≤ j → v1.toBitVec.getLsbD j = false := by rw [h_v1, hwe]; exact own_fit_bits hwl hmm
  have f_v2 : ∀ j, wd41.toNatClampNeg ≤ j → v2.toBitVec.getLsbD j = false := by rw [h_v2, hwe]; exact own_fit_bits hwl hmm
  have K45 : ∀ t, Steps p.tables e below (T41.setTop (mkF m 148 #[.val (.int p1), .val (.long q2), .second, .val (.long q3), .second, .val (.long q4), .second, .val (.int p5), .val (.int p6), .val (.int wl), .val (.long mm), .second, .val (.long lw), .second, .val (.long lg), .second, .val (.int sz), .val (.long v1), .second, .val (.long v2), .second, .val (.int av), .val (.int bv), .val (.int cv), .val (.ref b32), .unset, .unset] [(.long v1), (.int av), (.ref b32)])) t → Steps p.tables e below G t := by
    intro t k
    refine K44 t ?_
    show Steps p.tables e below (T41.setTop (mkF m 142 #[.val (.int p1), .val (.long q2), .second, .val (.long q3), .second, .val (.long q4), .second, .val (.int p5), .val (.int p6), .val (.int wl), .val (.long mm), .second, .val (.long lw), .second, .val (.long lg), .second, .val (.int sz), .val (.long v1), .second, .val (.long v2), .second, .val (.int av), .val (.int bv), .val (.int cv), .val (.ref b32), .unset, .unset] [])) _
    refine XS.aload X41.here hx rfl (hb hby at_142) rfl rfl ?_
    show Steps p.tables e below (T41.setTop (mkF m 144 #[.val (.int p1), .val (.long q2), .second, .val (.long q3), .second, .val (.long q4), .second, .val (.int p5), .val (.int p6), .val (.int wl), .val (.long mm), .second, .val (.long lw), .second, .val (.long lg), .second, .val (.int sz), .val (.long v1), .second, .val (.long v2), .second, .val (.int av), .val (.int bv), .val (.int cv), .val (.ref b32), .unset, .unset] [(.ref b32)])) _
    refine XS.iload X41.here hx rfl (hb hby at_144) rfl ?_
    show Steps p.tables e below (T41.setTop (mkF m 146 #[.val (.int p1), .val (.long q2), .second, .val (.long q3), .second, .val (.long q4), .second, .val (.int p5), .val (.int p6), .val (.int wl), .val (.long mm), .second, .val (.long lw), .second, .val (.long lg), .second, .val (.int sz), .val (.long v1), .second, .val (.long v2), .second, .val (.int av), .val (.int bv), .val (.int cv), .val (.ref b32), .unset, .unset] [(.int av), (.ref b32)])) _
    refine XS.lload X41.here hx rfl (hb hby at_146) rfl ?_
    show Steps p.tables e below (T41.setTop (mkF m 148 #[.val (.int p1), .val (.long q2), .second, .val (.long q3), .second, .val (.long q4), .second, .val (.int p5), .val (.int p6), .val (.int wl), .val (.long mm), .second, .val (.long lw), .second, .val (.long lg), .second, .val (.int sz), .val (.long v1), .second, .val (.long v2), .second, .val (.int av), .val (.int bv), .val (.int cv), .val (.ref b32), .unset, .unset] [(.long v1), (.int av), (.ref b32)])) _
    exact k
  obtain ⟨cq46, kq46, q46a, q46b, q46c⟩ := isOf hZ rfl Ex41
  obtain ⟨_, _, ⟨T46, L46, kk46, nn46⟩, -, X46, ⟨Lc46, hQ46, lq46, yq46, zq46⟩, st46⟩ := X41.virtualBack hx (y := (⟨"com/example/holdover/holdover/analysis/FixedWidthLongs", "set", "(IJ)V"⟩ : MethodName)) (z := (⟨"com/example/holdover/holdover/analysis/FixedWidthLongs", "set", "(IJ)V"⟩ : MethodName)) hown (mvT hZ (hw _ (List.mem_of_getElem? (i := 58) rfl))) (mvT hZ (hw _ (List.mem_of_getElem? (i := 59) rfl))) (notFace_of_selects (args := #[]) (mvT hZ (hw _ (List.mem_of_getElem? (i := 61) rfl)))) (mvT hZ (hw _ (List.mem_of_getElem? (i := 61) rfl))) (mvT hZ (hw _ (List.mem_of_getElem? (i := 60) rfl))) (by decide) (backOf (W := 0) (rm11 l Z a0 hw [] b32 ps41 np41 P41 ln41 wd41 mk41 (fun _ => 0) av v1 sz.toNatClampNeg T41.heap n0 Zq41 SS41 hwd hm hok (own_ixp hs3 hav).1 (own_ixp hs3 hav).2) hZ (hw _ (List.mem_of_getElem? (i := 62) rfl)) (hw _ (List.mem_of_getElem? (i := 9) rfl)) (by decide) (by decide)) q46a q46c (g := (mkF m 148 #[.val (.int p1), .val (.long q2), .second, .val (.long q3), .second, .val (.long q4), .second, .val (.int p5), .val (.int p6), .val (.int wl), .val (.long mm), .second, .val (.long lw), .second, .val (.long lg), .second, .val (.int sz), .val (.long v1), .second, .val (.long v2), .second, .val (.int av), .val (.int bv), .val (.int cv), .val (.ref b32), .unset, .unset] [(.long v1), (.int av), (.ref b32)])) rfl (by rw [hml]; rfl) (Steps.refl _) (argsL := [(.int av), (.long v1)]) (rest := []) (lenOf pd_8 rfl) rfl (by show 2 * 0 + _ ≤ _; exact Nat.le_of_eq rfl) (hb hby at_148) (fun _ _ => ⟨rfl, rfl, (by decide : 4 + 0 ≤ _), (by decide : 16390 + 0 ≤ _)⟩)
  dsimp only [Pt.U, Pt.locs, Pt.cells, Pt.slots] at X46 lq46 yq46 zq46 st46 hQ46
  subst lq46 yq46 zq46
  obtain ⟨WW46, rfl, Nq46, SS46, Zq46, hW46⟩ := hQ46
  have N47 := Fr.app N42 Nq46
  have Ex46 := SS46.1
  have K48 : ∀ t, Steps p.tables e below (T46.setTop (mkF m 151 #[.val (.int p1), .val (.long q2), .second, .val (.long q3), .second, .val (.long q4), .second, .val (.int p5), .val (.int p6), .val (.int wl), .val (.long mm), .second, .val (.long lw), .second, .val (.long lg), .second, .val (.int sz), .val (.long v1), .second, .val (.long v2), .second, .val (.int av), .val (.int bv), .val (.int cv), .val (.ref b32), .unset, .unset] [])) t → Steps p.tables e below G t := fun t k => K45 t (st46.trans k)
  have K49 : ∀ t, Steps p.tables e below (T46.setTop (mkF m 157 #[.val (.int p1), .val (.long q2), .second, .val (.long q3), .second, .val (.long q4), .second, .val (.int p5), .val (.int p6), .val (.int wl), .val (.long mm), .second, .val (.long lw), .second, .val (.long lg), .second, .val (.int sz), .val (.long v1), .second, .val (.long v2), .second, .val (.int av), .val (.int bv), .val (.int cv), .val (.ref b32), .unset, .unset] [(.long v2), (.int bv), (.ref b32)])) t → Steps p.tables e below G t := by
    intro t k
    refine K48 t ?_
    show Steps p.tables e below (T46.setTop (mkF m 151 #[.val (.int p1), .val (.long q2), .second, .val (.long q3), .second, .val (.long q4), .second, .val (.int p5), .val (.int p6), .val (.int wl), .val (.long mm), .second, .val (.long lw), .second, .val (.long lg), .second, .val (.int sz), .val (.long v1), .second, .val (.long v2), .second, .val (.int av), .val (.int bv), .val (.int cv), .val (.ref b32), .unset, .unset] [])) _
    refine XS.aload X46.here hx rfl (hb hby at_151) rfl rfl ?_
    show Steps p.tables e below (T46.setTop (mkF m 153 #[.val (.int p1), .val (.long q2), .second, .val (.long q3), .second, .val (.long q4), .second, .val (.int p5), .val (.int p6), .val (.int wl), .val (.long mm), .second, .val (.long lw), .second, .val (.long lg), .second, .val (.int sz), .val (.long v1), .second, .val (.long v2), .second, .val (.int av), .val (.int bv), .val (.int cv), .val (.ref b32), .unset, .unset] [(.ref b32)])) _
    refine XS.iload X46.here hx rfl (hb hby at_153) rfl ?_
    show Steps p.tables e below (T46.setTop (mkF m 155 #[.val (.int p1), .val (.long q2), .second, .val (.long q3), .second, .val (.long q4), .second, .val (.int p5), .val (.int p6), .val (.int wl), .val (.long mm), .second, .val (.long lw), .second, .val (.long lg), .second, .val (.int sz), .val (.long v1), .second, .val (.long v2), .second, .val (.int av), .val (.int bv), .val (.int cv), .val (.ref b32), .unset, .unset] [(.int bv), (.ref b32)])) _
    refine XS.lload X46.here hx rfl (hb hby at_155) rfl ?_
    show Steps p.tables e below (T46.setTop (mkF m 157 #[.val (.int p1), .val (.long q2), .second, .val (.long q3), .second, .val (.long q4), .second, .val (.int p5), .val (.int p6), .val (.int wl), .val (.long mm), .second, .val (.long lw), .second, .val (.long lg), .second, .val (.int sz), .val (.long v1), .second, .val (.long v2), .second, .val (.int av), .val (.int bv), .val (.int cv), .val (.ref b32), .unset, .unset] [(.long v2), (.int bv), (.ref b32)])) _
    exact k
  obtain ⟨cq50, kq50, q50a, q50b, q50c⟩ := isOf hZ rfl Ex46
  obtain ⟨_, _, ⟨T50, L50, kk50, nn50⟩, -, X50, ⟨Lc50, hQ50, lq50, yq50, zq50⟩, st50⟩ := X46.virtualBack hx (y := (⟨"com/example/holdover/holdover/analysis/FixedWidthLongs", "set", "(IJ)V"⟩ : MethodName)) (z := (⟨"com/example/holdover/holdover/analysis/FixedWidthLongs", "set", "(IJ)V"⟩ : MethodName)) hown (mvT hZ (hw _ (List.mem_of_getElem? (i := 58) rfl))) (mvT hZ (hw _ (List.mem_of_getElem? (i := 59) rfl))) (notFace_of_selects (args := #[]) (mvT hZ (hw _ (List.mem_of_getElem? (i := 61) rfl)))) (mvT hZ (hw _ (List.mem_of_getElem? (i := 61) rfl))) (mvT hZ (hw _ (List.mem_of_getElem? (i := 60) rfl))) (by decide) (backOf (W := 0) (rm11 l Z a0 hw [] b32 ps41 np41 P41 ln41 wd41 mk41 WW46 bv v2 sz.toNatClampNeg T46.heap n0 Zq46 SS46 hwd hm hok (own_ixp hs3 hbv.1).1 (own_ixp hs3 hbv.1).2) hZ (hw _ (List.mem_of_getElem? (i := 62) rfl)) (hw _ (List.mem_of_getElem? (i := 9) rfl)) (by decide) (by decide)) q50a q50c (g := (mkF m 157 #[.val (.int p1), .val (.long q2), .second, .val (.long q3), .second, .val (.long q4), .second, .val (.int p5), .val (.int p6), .val (.int wl), .val (.long mm), .second, .val (.long lw), .second, .val (.long lg), .second, .val (.int sz), .val (.long v1), .second, .val (.long v2), .second, .val (.int av), .val (.int bv), .val (.int cv), .val (.ref b32), .unset, .unset] [(.long v2), (.int bv), (.ref b32)])) rfl (by rw [hml]; rfl) (Steps.refl _) (argsL := [(.int bv), (.long v2)]) (rest := []) (lenOf pd_8 rfl) rfl (by show 2 * 0 + _ ≤ _; exact Nat.le_of_eq rfl) (hb hby at_157) (fun _ _ => ⟨rfl, rfl, (by decide : 4 + 0 ≤ _), (by decide : 16390 + 0 ≤ _)⟩)
  dsimp only [Pt.U, Pt.locs, Pt.cells, Pt.slots] at X50 lq50 yq50 zq50 st50 hQ50
  subst lq50 yq50 zq50
  obtain ⟨WW50, rfl, Nq50, SS50, Zq50, hW50⟩ := hQ50
  have N51 := Fr.app N47 Nq50
  have Ex50 := SS50.1
  have K52 : ∀ t, Steps p.tables e below (T50.setTop (mkF m 160 #[.val (.int p1), .val (.long q2), .second, .val (.long q3), .second, .val (.long q4), .second, .val (.int p5), .val (.int p6), .val (.int wl), .val (.long mm), .second, .val (.long lw), .second, .val (.long lg), .second, .val (.int sz), .val (.long v1), .second, .val (.long v2), .second, .val (.int av), .val (.int bv), .val (.int cv), .val (.ref b32), .unset, .unset] [])) t → Steps p.tables e below G t := fun t k => K49 t (st50.trans k)
  have bs0 := own_bset hW46 hw64 f_v1
  have bs1 := own_bset hW50 hw64 f_v2
  have K53 : ∀ t, Steps p.tables e below (T50.setTop (mkF m 164 #[.val (.int p1), .val (.long q2), .second, .val (.long q3), .second, .val (.long q4), .second, .val (.int p5), .val (.int p6), .val (.int wl), .val (.long mm), .second, .val (.long lw), .second, .val (.long lg), .second, .val (.int sz), .val (.long v1), .second, .val (.long v2), .second, .val (.int av), .val (.int bv), .val (.int cv), .val (.ref b32), .unset, .unset] [(.int av), (.int cv)])) t → Steps p.tables e below G t := by
    intro t k
    refine K52 t ?_
    show Steps p.tables e below (T50.setTop (mkF m 160 #[.val (.int p1), .val (.long q2), .second, .val (.long q3), .second, .val (.long q4), .second, .val (.int p5), .val (.int p6), .val (.int wl), .val (.long mm), .second, .val (.long lw), .second, .val (.long lg), .second, .val (.int sz), .val (.long v1), .second, .val (.long v2), .second, .val (.int av), .val (.int bv), .val (.int cv), .val (.ref b32), .unset, .unset] [])) _
    refine XS.iload X50.here hx rfl (hb hby at_160) rfl ?_
    show Steps p.tables e below (T50.setTop (mkF m 162 #[.val (.int p1), .val (.long q2), .second, .val (.long q3), .second, .val (.long q4), .second, .val (.int p5), .val (.int p6), .val (.int wl), .val (.long mm), .second, .val (.long lw), .second, .val (.long lg), .second, .val (.int sz), .val (.long v1), .second, .val (.long v2), .second, .val (.int av), .val (.int bv), .val (.int cv), .val (.ref b32), .unset, .unset] [(.int cv)])) _
    refine XS.iload X50.here hx rfl (hb hby at_162) rfl ?_
    show Steps p.tables e below (T50.setTop (mkF m 164 #[.val (.int p1), .val (.long q2), .second, .val (.long q3), .second, .val (.long q4), .second, .val (.int p5), .val (.int p6), .val (.int wl), .val (.long mm), .second, .val (.long lw), .second, .val (.long lg), .second, .val (.int sz), .val (.long v1), .second, .val (.long v2), .second, .val (.int av), .val (.int bv), .val (.int cv), .val (.ref b32), .unset, .unset] [(.int av), (.int cv)])) _
    exact k
  have K56 : ∀ t, Steps p.tables e below (T50.setTop (mkF m 185 #[.val (.int p1), .val (.long q2), .second, .val (.long q3), .second, .val (.long q4), .second, .val (.int p5), .val (.int p6), .val (.int wl), .val (.long mm), .second, .val (.long lw), .second, .val (.long lg), .second, .val (.int sz), .val (.long v1), .second, .val (.long v2), .second, .val (.int av), .val (.int bv), .val (.int cv), .val (.ref b32), .unset, .unset] [(.long (if cv = av then v1 else (if cv = bv then v2 else (0 : Int64))))])) t → Steps p.tables e below G t := by
    intro t k
    refine K53 t ?_
    by_cases hc54 : cv = av
    · show Steps p.tables e below (T50.setTop (mkF m 164 #[.val (.int p1), .val (.long q2), .second, .val (.long q3), .second, .val (.long q4), .second, .val (.int p5), .val (.int p6), .val (.int wl), .val (.long mm), .second, .val (.long lw), .second, .val (.long lg), .second, .val (.int sz), .val (.long v1), .second, .val (.long v2), .second, .val (.int av), .val (.int bv), .val (.int cv), .val (.ref b32), .unset, .unset] [(.int av), (.int cv)])) _
      refine XS.icmpNo X50.here hx rfl (hb hby at_164) rfl (teq hc54).2 ?_
      show Steps p.tables e below (T50.setTop (mkF m 167 #[.val (.int p1), .val (.long q2), .second, .val (.long q3), .second, .val (.long q4), .second, .val (.int p5), .val (.int p6), .val (.int wl), .val (.long mm), .second, .val (.long lw), .second, .val (.long lg), .second, .val (.int sz), .val (.long v1), .second, .val (.long v2), .second, .val (.int av), .val (.int bv), .val (.int cv), .val (.ref b32), .unset, .unset] [])) _
      refine XS.lload X50.here hx rfl (hb hby at_167) rfl ?_
      show Steps p.tables e below (T50.setTop (mkF m 169 #[.val (.int p1), .val (.long q2), .second, .val (.long q3), .second, .val (.long q4), .second, .val (.int p5), .val (.int p6), .val (.int wl), .val (.long mm), .second, .val (.long lw), .second, .val (.long lg), .second, .val (.int sz), .val (.long v1), .second, .val (.long v2), .second, .val (.int av), .val (.int bv), .val (.int cv), .val (.ref b32), .unset, .unset] [(.long v1)])) _
      refine XS.goto X50.here hx rfl (pc0 := 169) (pc' := 185) rfl (hb hby at_169) (by decide) (by decide) ?_
      show Steps p.tables e below (T50.setTop (mkF m 185 #[.val (.int p1), .val (.long q2), .second, .val (.long q3), .second, .val (.long q4), .second, .val (.int p5), .val (.int p6), .val (.int wl), .val (.long mm), .second, .val (.long lw), .second, .val (.long lg), .second, .val (.int sz), .val (.long v1), .second, .val (.long v2), .second, .val (.int av), .val (.int bv), .val (.int cv), .val (.ref b32), .unset, .unset] [(.long v1)])) _
      simp only [if_pos hc54] at k
      exact k
    · show Steps p.tables e below (T50.setTop (mkF m 164 #[.val (.int p1), .val (.long q2), .second, .val (.long q3), .second, .val (.long q4), .second, .val (.int p5), .val (.int p6), .val (.int wl), .val (.long mm), .second, .val (.long lw), .second, .val (.long lg), .second, .val (.int sz), .val (.long v1), .second, .val (.long v2), .second, .val (.int av), .val (.int bv), .val (.int cv), .val (.ref b32), .unset, .unset] [(.int av), (.int cv)])) _
      refine XS.icmpYes X50.here hx rfl (pc0 := 164) (pc' := 172) rfl (hb hby at_164) rfl (feq hc54).2 (by decide) (by decide) ?_
      show Steps p.tables e below (T50.setTop (mkF m 172 #[.val (.int p1), .val (.long q2), .second, .val (.long q3), .second, .val (.long q4), .second, .val (.int p5), .val (.int p6), .val (.int wl), .val (.long mm), .second, .val (.long lw), .second, .val (.long lg), .second, .val (.int sz), .val (.long v1), .second, .val (.long v2), .second, .val (.int av), .val (.int bv), .val (.int cv), .val (.ref b32), .unset, .unset] [])) _
      refine XS.iload X50.here hx rfl (hb hby at_172) rfl ?_
      show Steps p.tables e below (T50.setTop (mkF m 174 #[.val (.int p1), .val (.long q2), .second, .val (.long q3), .second, .val (.long q4), .second, .val (.int p5), .val (.int p6), .val (.int wl), .val (.long mm), .second, .val (.long lw), .second, .val (.long lg), .second, .val (.int sz), .val (.long v1), .second, .val (.long v2), .second, .val (.int av), .val (.int bv), .val (.int cv), .val (.ref b32), .unset, .unset] [(.int cv)])) _
      refine XS.iload X50.here hx rfl (hb hby at_174) rfl ?_
      by_cases hc55 : cv = bv
      · show Steps p.tables e below (T50.setTop (mkF m 176 #[.val (.int p1), .val (.long q2), .second, .val (.long q3), .second, .val (.long q4), .second, .val (.int p5), .val (.int p6), .val (.int wl), .val (.long mm), .second, .val (.long lw), .second, .val (.long lg), .second, .val (.int sz), .val (.long v1), .second, .val (.long v2), .second, .val (.int av), .val (.int bv), .val (.int cv), .val (.ref b32), .unset, .unset] [(.int bv), (.int cv)])) _
        refine XS.icmpNo X50.here hx rfl (hb hby at_176) rfl (teq hc55).2 ?_
        show Steps p.tables e below (T50.setTop (mkF m 179 #[.val (.int p1), .val (.long q2), .second, .val (.long q3), .second, .val (.long q4), .second, .val (.int p5), .val (.int p6), .val (.int wl), .val (.long mm), .second, .val (.long lw), .second, .val (.long lg), .second, .val (.int sz), .val (.long v1), .second, .val (.long v2), .second, .val (.int av), .val (.int bv), .val (.int cv), .val (.ref b32), .unset, .unset] [])) _
        refine XS.lload X50.here hx rfl (hb hby at_179) rfl ?_
        show Steps p.tables e below (T50.setTop (mkF m 181 #[.val (.int p1), .val (.long q2), .second, .val (.long q3), .second, .val (.long q4), .second, .val (.int p5), .val (.int p6), .val (.int wl), .val (.long mm), .second, .val (.long lw), .second, .val (.long lg), .second, .val (.int sz), .val (.long v1), .second, .val (.long v2), .second, .val (.int av), .val (.int bv), .val (.int cv), .val (.ref b32), .unset, .unset] [(.long v2)])) _
        refine XS.goto X50.here hx rfl (pc0 := 181) (pc' := 185) rfl (hb hby at_181) (by decide) (by decide) ?_
        show Steps p.tables e below (T50.setTop (mkF m 185 #[.val (.int p1), .val (.long q2), .second, .val (.long q3), .second, .val (.long q4), .second, .val (.int p5), .val (.int p6), .val (.int wl), .val (.long mm), .second, .val (.long lw), .second, .val (.long lg), .second, .val (.int sz), .val (.long v1), .second, .val (.long v2), .second, .val (.int av), .val (.int bv), .val (.int cv), .val (.ref b32), .unset, .unset] [(.long v2)])) _
        simp only [if_neg hc54, if_pos hc55] at k
        exact k
      · show Steps p.tables e below (T50.setTop (mkF m 176 #[.val (.int p1), .val (.long q2), .second, .val (.long q3), .second, .val (.long q4), .second, .val (.int p5), .val (.int p6), .val (.int wl), .val (.long mm), .second, .val (.long lw), .second, .val (.long lg), .second, .val (.int sz), .val (.long v1), .second, .val (.long v2), .second, .val (.int av), .val (.int bv), .val (.int cv), .val (.ref b32), .unset, .unset] [(.int bv), (.int cv)])) _
        refine XS.icmpYes X50.here hx rfl (pc0 := 176) (pc' := 184) rfl (hb hby at_176) rfl (feq hc55).2 (by decide) (by decide) ?_
        show Steps p.tables e below (T50.setTop (mkF m 184 #[.val (.int p1), .val (.long q2), .second, .val (.long q3), .second, .val (.long q4), .second, .val (.int p5), .val (.int p6), .val (.int wl), .val (.long mm), .second, .val (.long lw), .second, .val (.long lg), .second, .val (.int sz), .val (.long v1), .second, .val (.long v2), .second, .val (.int av), .val (.int bv), .val (.int cv), .val (.ref b32), .unset, .unset] [])) _
        refine XS.lconst X50.here hx rfl (hb hby at_184) ?_
        show Steps p.tables e below (T50.setTop (mkF m 185 #[.val (.int p1), .val (.long q2), .second, .val (.long q3), .second, .val (.long q4), .second, .val (.int p5), .val (.int p6), .val (.int wl), .val (.long mm), .second, .val (.long lw), .second, .val (.long lg), .second, .val (.int sz), .val (.long v1), .second, .val (.long v2), .second, .val (.int av), .val (.int bv), .val (.int cv), .val (.ref b32), .unset, .unset] [(.long (0 : Int64))])) _
        simp only [if_neg hc54, if_neg hc55] at k
        exact k
  obtain ⟨ex, h_ex⟩ : ∃ z : Int64, z = (if cv = av then v1 else (if cv = bv then v2 else (0 : Int64))) := ⟨_, rfl⟩
  have K57 : ∀ t, Steps p.tables e below (T50.setTop (mkF m 185 #[.val (.int p1), .val (.long q2), .second, .val (.long q3), .second, .val (.long q4), .second, .val (.int p5), .val (.int p6), .val (.int wl), .val (.long mm), .second, .val (.long lw), .second, .val (.long lg), .second, .val (.int sz), .val (.long v1), .second, .val (.long v2), .second, .val (.int av), .val (.int bv), .val (.int cv), .val (.ref b32), .unset, .unset] [(.long ex)])) t → Steps p.tables e below G t := by rw [h_ex]; exact K56
  have K58 : ∀ t, Steps p.tables e below (T50.setTop (mkF m 191 #[.val (.int p1), .val (.long q2), .second, .val (.long q3), .second, .val (.long q4), .second, .val (.int p5), .val (.int p6), .val (.int wl), .val (.long mm), .second, .val (.long lw), .second, .val (.long lg), .second, .val (.int sz), .val (.long v1), .second, .val (.long v2), .second, .val (.int av), .val (.int bv), .val (.int cv), .val (.ref b32), .val (.long ex), .second] [(.int av), (.ref b32)])) t → Steps p.tables e below G t := by
    intro t k
    refine K57 t ?_
    show Steps p.tables e below (T50.setTop (mkF m 185 #[.val (.int p1), .val (.long q2), .second, .val (.long q3), .second, .val (.long q4), .second, .val (.int p5), .val (.int p6), .val (.int wl), .val (.long mm), .second, .val (.long lw), .second, .val (.long lg), .second, .val (.int sz), .val (.long v1), .second, .val (.long v2), .second, .val (.int av), .val (.int bv), .val (.int cv), .val (.ref b32), .unset, .unset] [(.long ex)])) _
    refine XS.lstore X50.here hx rfl (hb hby at_185) rfl (l' := #[.val (.int p1), .val (.long q2), .second, .val (.long q3), .second, .val (.long q4), .second, .val (.int p5), .val (.int p6), .val (.int wl), .val (.long mm), .second, .val (.long lw), .second, .val (.long lg), .second, .val (.int sz), .val (.long v1), .second, .val (.long v2), .second, .val (.int av), .val (.int bv), .val (.int cv), .val (.ref b32), .val (.long ex), .second]) rfl ?_
    show Steps p.tables e below (T50.setTop (mkF m 187 #[.val (.int p1), .val (.long q2), .second, .val (.long q3), .second, .val (.long q4), .second, .val (.int p5), .val (.int p6), .val (.int wl), .val (.long mm), .second, .val (.long lw), .second, .val (.long lg), .second, .val (.int sz), .val (.long v1), .second, .val (.long v2), .second, .val (.int av), .val (.int bv), .val (.int cv), .val (.ref b32), .val (.long ex), .second] [])) _
    refine XS.aload X50.here hx rfl (hb hby at_187) rfl rfl ?_
    show Steps p.tables e below (T50.setTop (mkF m 189 #[.val (.int p1), .val (.long q2), .second, .val (.long q3), .second, .val (.long q4), .second, .val (.int p5), .val (.int p6), .val (.int wl), .val (.long mm), .second, .val (.long lw), .second, .val (.long lg), .second, .val (.int sz), .val (.long v1), .second, .val (.long v2), .second, .val (.int av), .val (.int bv), .val (.int cv), .val (.ref b32), .val (.long ex), .second] [(.ref b32)])) _
    refine XS.iload X50.here hx rfl (hb hby at_189) rfl ?_
    show Steps p.tables e below (T50.setTop (mkF m 191 #[.val (.int p1), .val (.long q2), .second, .val (.long q3), .second, .val (.long q4), .second, .val (.int p5), .val (.int p6), .val (.int wl), .val (.long mm), .second, .val (.long lw), .second, .val (.long lg), .second, .val (.int sz), .val (.long v1), .second, .val (.long v2), .second, .val (.int av), .val (.int bv), .val (.int cv), .val (.ref b32), .val (.long ex), .second] [(.int av), (.ref b32)])) _
    exact k
  obtain ⟨cq59, kq59, q59a, q59b, q59c⟩ := isOf hZ rfl Ex50
  obtain ⟨_, _, ⟨T59, L59, kk59, nn59⟩, -, X59, ⟨Lc59, hQ59, lq59, yq59, zq59⟩, st59⟩ := X50.virtualBack hx (y := (⟨"com/example/holdover/holdover/analysis/FixedWidthLongs", "get", "(I)J"⟩ : MethodName)) (z := (⟨"com/example/holdover/holdover/analysis/FixedWidthLongs", "get", "(I)J"⟩ : MethodName)) hown (mvT hZ (hw _ (List.mem_of_getElem? (i := 63) rfl))) (mvT hZ (hw _ (List.mem_of_getElem? (i := 64) rfl))) (notFace_of_selects (args := #[]) (mvT hZ (hw _ (List.mem_of_getElem? (i := 66) rfl)))) (mvT hZ (hw _ (List.mem_of_getElem? (i := 66) rfl))) (mvT hZ (hw _ (List.mem_of_getElem? (i := 65) rfl))) (by decide) (backOf (W := 0) (rm12 l Z a0 hw [] b32 ps41 np41 P41 ln41 wd41 mk41 WW50 av sz.toNatClampNeg T50.heap n0 Zq50 SS50 hwd hm hok (own_ixp hs3 hav).1 (own_ixp hs3 hav).2) hZ (hw _ (List.mem_of_getElem? (i := 67) rfl)) (hw _ (List.mem_of_getElem? (i := 9) rfl)) (by decide) (by decide)) q59a q59c (g := (mkF m 191 #[.val (.int p1), .val (.long q2), .second, .val (.long q3), .second, .val (.long q4), .second, .val (.int p5), .val (.int p6), .val (.int wl), .val (.long mm), .second, .val (.long lw), .second, .val (.long lg), .second, .val (.int sz), .val (.long v1), .second, .val (.long v2), .second, .val (.int av), .val (.int bv), .val (.int cv), .val (.ref b32), .val (.long ex), .second] [(.int av), (.ref b32)])) rfl (by rw [hml]; rfl) (Steps.refl _) (argsL := [(.int av)]) (rest := []) (lenOf pd_9 rfl) rfl (by show 2 * 0 + _ ≤ _; exact Nat.le_of_eq rfl) (hb hby at_191) (fun _ _ => ⟨rfl, rfl, (by decide : 4 + 0 ≤ _), (by decide : 16390 + 0 ≤ _)⟩)
  dsimp only [Pt.U, Pt.locs, Pt.cells, Pt.slots] at X59 lq59 yq59 zq59 st59 hQ59
  subst lq59 yq59 zq59
  obtain ⟨g59, rfl, Nq59, e59, hg59⟩ := hQ59
  have N60 := Fr.app N51 Nq59
  have K61 : ∀ t, Steps p.tables e below (T59.setTop (mkF m 194 #[.val (.int p1), .val (.long q2), .second, .val (.long q3), .second, .val (.long q4), .second, .val (.int p5), .val (.int p6), .val (.int wl), .val (.long mm), .second, .val (.long lw), .second, .val (.long lg), .second, .val (.int sz), .val (.long v1), .second, .val (.long v2), .second, .val (.int av), .val (.int bv), .val (.int cv), .val (.ref b32), .val (.long ex), .second] [(.long g59)])) t → Steps p.tables e below G t := fun t k => K58 t (st59.trans k)
  have K62 : ∀ t, Steps p.tables e below (T59.setTop (mkF m 204 #[.val (.int p1), .val (.long q2), .second, .val (.long q3), .second, .val (.long q4), .second, .val (.int p5), .val (.int p6), .val (.int wl), .val (.long mm), .second, .val (.long lw), .second, .val (.long lg), .second, .val (.int sz), .val (.long v1), .second, .val (.long v2), .second, .val (.int av), .val (.int bv), .val (.int cv), .val (.ref b32), .val (.long ex), .second] [(.int bv), (.ref b32)])) t → Steps p.tables e below G t := by
    intro t k
    refine K61 t ?_
    show Steps p.tables e below (T59.setTop (mkF m 194 #[.val (.int p1), .val (.long q2), .second, .val (.long q3), .second, .val (.long q4), .second, .val (.int p5), .val (.int p6), .val (.int wl), .val (.long mm), .second, .val (.long lw), .second, .val (.long lg), .second, .val (.int sz), .val (.long v1), .second, .val (.long v2), .second, .val (.int av), .val (.int bv), .val (.int cv), .val (.ref b32), .val (.long ex), .second] [(.long g59)])) _
    refine XS.lload X59.here hx rfl (hb hby at_194) rfl ?_
    show Steps p.tables e below (T59.setTop (mkF m 196 #[.val (.int p1), .val (.long q2), .second, .val (.long q3), .second, .val (.long q4), .second, .val (.int p5), .val (.int p6), .val (.int wl), .val (.long mm), .second, .val (.long lw), .second, .val (.long lg), .second, .val (.int sz), .val (.long v1), .second, .val (.long v2), .second, .val (.int av), .val (.int bv), .val (.int cv), .val (.ref b32), .val (.long ex), .second] [(.long v1), (.long g59)])) _
    refine XS.lcmp X59.here hx rfl (hb hby at_196) rfl ?_
    show Steps p.tables e below (T59.setTop (mkF m 197 #[.val (.int p1), .val (.long q2), .second, .val (.long q3), .second, .val (.long q4), .second, .val (.int p5), .val (.int p6), .val (.int wl), .val (.long mm), .second, .val (.long lw), .second, .val (.long lg), .second, .val (.int sz), .val (.long v1), .second, .val (.long v2), .second, .val (.int av), .val (.int bv), .val (.int cv), .val (.ref b32), .val (.long ex), .second] [(.int (lcmpW g59 v1))])) _
    refine XS.ifNo X59.here hx rfl (hb hby at_197) rfl ((if0 _ _).trans (teq ((lw_eq g59 v1).mpr (own_geq hg59 hw64 f_v1 (fun j hj => by rw [bs1 _ j hj, if_neg hbv.2, bs0 _ j hj, if_pos rfl])))).2) ?_
    show Steps p.tables e below (T59.setTop (mkF m 200 #[.val (.int p1), .val (.long q2), .second, .val (.long q3), .second, .val (.long q4), .second, .val (.int p5), .val (.int p6), .val (.int wl), .val (.long mm), .second, .val (.long lw), .second, .val (.long lg), .second, .val (.int sz), .val (.long v1), .second, .val (.long v2), .second, .val (.int av), .val (.int bv), .val (.int cv), .val (.ref b32), .val (.long ex), .second] [])) _
    refine XS.aload X59.here hx rfl (hb hby at_200) rfl rfl ?_
    show Steps p.tables e below (T59.setTop (mkF m 202 #[.val (.int p1), .val (.long q2), .second, .val (.long q3), .second, .val (.long q4), .second, .val (.int p5), .val (.int p6), .val (.int wl), .val (.long mm), .second, .val (.long lw), .second, .val (.long lg), .second, .val (.int sz), .val (.long v1), .second, .val (.long v2), .second, .val (.int av), .val (.int bv), .val (.int cv), .val (.ref b32), .val (.long ex), .second] [(.ref b32)])) _
    refine XS.iload X59.here hx rfl (hb hby at_202) rfl ?_
    show Steps p.tables e below (T59.setTop (mkF m 204 #[.val (.int p1), .val (.long q2), .second, .val (.long q3), .second, .val (.long q4), .second, .val (.int p5), .val (.int p6), .val (.int wl), .val (.long mm), .second, .val (.long lw), .second, .val (.long lg), .second, .val (.int sz), .val (.long v1), .second, .val (.long v2), .second, .val (.int av), .val (.int bv), .val (.int cv), .val (.ref b32), .val (.long ex), .second] [(.int bv), (.ref b32)])) _
    exact k
  obtain ⟨cq63, kq63, q63a, q63b, q63c⟩ := isOf hZ e59 Ex50
  obtain ⟨_, _, ⟨T63, L63, kk63, nn63⟩, -, X63, ⟨Lc63, hQ63, lq63, yq63, zq63⟩, st63⟩ := X59.virtualBack hx (y := (⟨"com/example/holdover/holdover/analysis/FixedWidthLongs", "get", "(I)J"⟩ : MethodName)) (z := (⟨"com/example/holdover/holdover/analysis/FixedWidthLongs", "get", "(I)J"⟩ : MethodName)) hown (mvT hZ (hw _ (List.mem_of_getElem? (i := 63) rfl))) (mvT hZ (hw _ (List.mem_of_getElem? (i := 64) rfl))) (notFace_of_selects (args := #[]) (mvT hZ (hw _ (List.mem_of_getElem? (i := 66) rfl)))) (mvT hZ (hw _ (List.mem_of_getElem? (i := 66) rfl))) (mvT hZ (hw _ (List.mem_of_getElem? (i := 65) rfl))) (by decide) (backOf (W := 0) (rm12 l Z a0 hw [] b32 ps41 np41 P41 ln41 wd41 mk41 WW50 bv sz.toNatClampNeg T50.heap n0 Zq50 SS50 hwd hm hok (own_ixp hs3 hbv.1).1 (own_ixp hs3 hbv.1).2) hZ (hw _ (List.mem_of_getElem? (i := 67) rfl)) (hw _ (List.mem_of_getElem? (i := 9) rfl)) (by decide) (by decide)) q63a q63c (g := (mkF m 204 #[.val (.int p1), .val (.long q2), .second, .val (.long q3), .second, .val (.long q4), .second, .val (.int p5), .val (.int p6), .val (.int wl), .val (.long mm), .second, .val (.long lw), .second, .val (.long lg), .second, .val (.int sz), .val (.long v1), .second, .val (.long v2), .second, .val (.int av), .val (.int bv), .val (.int cv), .val (.ref b32), .val (.long ex), .second] [(.int bv), (.ref b32)])) rfl (by rw [hml]; rfl) (Steps.refl _) (argsL := [(.int bv)]) (rest := []) (lenOf pd_9 rfl) rfl (by show 2 * 0 + _ ≤ _; exact Nat.le_of_eq rfl) (hb hby at_204) (fun _ _ => ⟨rfl, e59, (by decide : 4 + 0 ≤ _), (by decide : 16390 + 0 ≤ _)⟩)
  dsimp only [Pt.U, Pt.locs, Pt.cells, Pt.slots] at X63 lq63 yq63 zq63 st63 hQ63
  subst lq63 yq63 zq63
  obtain ⟨g63, rfl, Nq63, e63, hg63⟩ := hQ63
  have N64 := Fr.app N60 Nq63
  have K65 : ∀ t, Steps p.tables e below (T63.setTop (mkF m 207 #[.val (.int p1), .val (.long q2), .second, .val (.long q3), .second, .val (.long q4), .second, .val (.int p5), .val (.int p6), .val (.int wl), .val (.long mm), .second, .val (.long lw), .second, .val (.long lg), .second, .val (.int sz), .val (.long v1), .second, .val (.long v2), .second, .val (.int av), .val (.int bv), .val (.int cv), .val (.ref b32), .val (.long ex), .second] [(.long g63)])) t → Steps p.tables e below G t := fun t k => K62 t (st63.trans k)
  have K66 : ∀ t, Steps p.tables e below (T63.setTop (mkF m 217 #[.val (.int p1), .val (.long q2), .second, .val (.long q3), .second, .val (.long q4), .second, .val (.int p5), .val (.int p6), .val (.int wl), .val (.long mm), .second, .val (.long lw), .second, .val (.long lg), .second, .val (.int sz), .val (.long v1), .second, .val (.long v2), .second, .val (.int av), .val (.int bv), .val (.int cv), .val (.ref b32), .val (.long ex), .second] [(.int cv), (.ref b32)])) t → Steps p.tables e below G t := by
    intro t k
    refine K65 t ?_
    show Steps p.tables e below (T63.setTop (mkF m 207 #[.val (.int p1), .val (.long q2), .second, .val (.long q3), .second, .val (.long q4), .second, .val (.int p5), .val (.int p6), .val (.int wl), .val (.long mm), .second, .val (.long lw), .second, .val (.long lg), .second, .val (.int sz), .val (.long v1), .second, .val (.long v2), .second, .val (.int av), .val (.int bv), .val (.int cv), .val (.ref b32), .val (.long ex), .second] [(.long g63)])) _
    refine XS.lload X63.here hx rfl (hb hby at_207) rfl ?_
    show Steps p.tables e below (T63.setTop (mkF m 209 #[.val (.int p1), .val (.long q2), .second, .val (.long q3), .second, .val (.long q4), .second, .val (.int p5), .val (.int p6), .val (.int wl), .val (.long mm), .second, .val (.long lw), .second, .val (.long lg), .second, .val (.int sz), .val (.long v1), .second, .val (.long v2), .second, .val (.int av), .val (.int bv), .val (.int cv), .val (.ref b32), .val (.long ex), .second] [(.long v2), (.long g63)])) _
    refine XS.lcmp X63.here hx rfl (hb hby at_209) rfl ?_
    show Steps p.tables e below (T63.setTop (mkF m 210 #[.val (.int p1), .val (.long q2), .second, .val (.long q3), .second, .val (.long q4), .second, .val (.int p5), .val (.int p6), .val (.int wl), .val (.long mm), .second, .val (.long lw), .second, .val (.long lg), .second, .val (.int sz), .val (.long v1), .second, .val (.long v2), .second, .val (.int av), .val (.int bv), .val (.int cv), .val (.ref b32), .val (.long ex), .second] [(.int (lcmpW g63 v2))])) _
    refine XS.ifNo X63.here hx rfl (hb hby at_210) rfl ((if0 _ _).trans (teq ((lw_eq g63 v2).mpr (own_geq hg63 hw64 f_v2 (fun j hj => by rw [bs1 _ j hj, if_pos rfl])))).2) ?_
    show Steps p.tables e below (T63.setTop (mkF m 213 #[.val (.int p1), .val (.long q2), .second, .val (.long q3), .second, .val (.long q4), .second, .val (.int p5), .val (.int p6), .val (.int wl), .val (.long mm), .second, .val (.long lw), .second, .val (.long lg), .second, .val (.int sz), .val (.long v1), .second, .val (.long v2), .second, .val (.int av), .val (.int bv), .val (.int cv), .val (.ref b32), .val (.long ex), .second] [])) _
    refine XS.aload X63.here hx rfl (hb hby at_213) rfl rfl ?_
    show Steps p.tables e below (T63.setTop (mkF m 215 #[.val (.int p1), .val (.long q2), .second, .val (.long q3), .second, .val (.long q4), .second, .val (.int p5), .val (.int p6), .val (.int wl), .val (.long mm), .second, .val (.long lw), .second, .val (.long lg), .second, .val (.int sz), .val (.long v1), .second, .val (.long v2), .second, .val (.int av), .val (.int bv), .val (.int cv), .val (.ref b32), .val (.long ex), .second] [(.ref b32)])) _
    refine XS.iload X63.here hx rfl (hb hby at_215) rfl ?_
    show Steps p.tables e below (T63.setTop (mkF m 217 #[.val (.int p1), .val (.long q2), .second, .val (.long q3), .second, .val (.long q4), .second, .val (.int p5), .val (.int p6), .val (.int wl), .val (.long mm), .second, .val (.long lw), .second, .val (.long lg), .second, .val (.int sz), .val (.long v1), .second, .val (.long v2), .second, .val (.int av), .val (.int bv), .val (.int cv), .val (.ref b32), .val (.long ex), .second] [(.int cv), (.ref b32)])) _
    exact k
  obtain ⟨cq67, kq67, q67a, q67b, q67c⟩ := isOf hZ e63 Ex50
  obtain ⟨_, _, ⟨T67, L67, kk67, nn67⟩, -, X67, ⟨Lc67, hQ67, lq67, yq67, zq67⟩, st67⟩ := X63.virtualBack hx (y := (⟨"com/example/holdover/holdover/analysis/FixedWidthLongs", "get", "(I)J"⟩ : MethodName)) (z := (⟨"com/example/holdover/holdover/analysis/FixedWidthLongs", "get", "(I)J"⟩ : MethodName)) hown (mvT hZ (hw _ (List.mem_of_getElem? (i := 63) rfl))) (mvT hZ (hw _ (List.mem_of_getElem? (i := 64) rfl))) (notFace_of_selects (args := #[]) (mvT hZ (hw _ (List.mem_of_getElem? (i := 66) rfl)))) (mvT hZ (hw _ (List.mem_of_getElem? (i := 66) rfl))) (mvT hZ (hw _ (List.mem_of_getElem? (i := 65) rfl))) (by decide) (backOf (W := 0) (rm12 l Z a0 hw [] b32 ps41 np41 P41 ln41 wd41 mk41 WW50 cv sz.toNatClampNeg T50.heap n0 Zq50 SS50 hwd hm hok (own_ixp hs3 hcv).1 (own_ixp hs3 hcv).2) hZ (hw _ (List.mem_of_getElem? (i := 67) rfl)) (hw _ (List.mem_of_getElem? (i := 9) rfl)) (by decide) (by decide)) q67a q67c (g := (mkF m 217 #[.val (.int p1), .val (.long q2), .second, .val (.long q3), .second, .val (.long q4), .second, .val (.int p5), .val (.int p6), .val (.int wl), .val (.long mm), .second, .val (.long lw), .second, .val (.long lg), .second, .val (.int sz), .val (.long v1), .second, .val (.long v2), .second, .val (.int av), .val (.int bv), .val (.int cv), .val (.ref b32), .val (.long ex), .second] [(.int cv), (.ref b32)])) rfl (by rw [hml]; rfl) (Steps.refl _) (argsL := [(.int cv)]) (rest := []) (lenOf pd_9 rfl) rfl (by show 2 * 0 + _ ≤ _; exact Nat.le_of_eq rfl) (hb hby at_217) (fun _ _ => ⟨rfl, e63, (by decide : 4 + 0 ≤ _), (by decide : 16390 + 0 ≤ _)⟩)
  dsimp only [Pt.U, Pt.locs, Pt.cells, Pt.slots] at X67 lq67 yq67 zq67 st67 hQ67
  subst lq67 yq67 zq67
  obtain ⟨g67, rfl, Nq67, e67, hg67⟩ := hQ67
  have N68 := Fr.app N64 Nq67
  have K69 : ∀ t, Steps p.tables e below (T67.setTop (mkF m 220 #[.val (.int p1), .val (.long q2), .second, .val (.long q3), .second, .val (.long q4), .second, .val (.int p5), .val (.int p6), .val (.int wl), .val (.long mm), .second, .val (.long lw), .second, .val (.long lg), .second, .val (.int sz), .val (.long v1), .second, .val (.long v2), .second, .val (.int av), .val (.int bv), .val (.int cv), .val (.ref b32), .val (.long ex), .second] [(.long g67)])) t → Steps p.tables e below G t := fun t k => K66 t (st67.trans k)
  have hfin : g67 = ex := by
    rw [h_ex]
    by_cases q1 : cv = av
    · rw [if_pos q1]; refine own_geq hg67 hw64 f_v1 (fun j hj => ?_)
      rw [bs1 _ j hj, if_neg (by rw [q1]; exact hbv.2), bs0 _ j hj, if_pos (by rw [q1])]
    · rw [if_neg q1]; by_cases q2 : cv = bv
      · rw [if_pos q2]; refine own_geq hg67 hw64 f_v2 (fun j hj => ?_)
        rw [bs1 _ j hj, if_pos (by rw [q2])]
      · rw [if_neg q2]; refine own_geq hg67 hw64 (fun j _ => by simp) (fun j hj => ?_)
        rw [bs1 _ j hj, if_neg (fun z => q2 ((own_inj hcv.1 hbv.1.1).mp z)), bs0 _ j hj, if_neg (fun z => q1 ((own_inj hcv.1 hav.1).mp z))]
        simp [own_bit]
  obtain ⟨fs, hr, hrun, hended, hW, hsame⟩ := X67.leave (v := some (.int (1 : Int32))) (fun h => by rw [Bd.returns] at h; cases h)
  have KF := K69
  rw [hG] at KF
  refine ⟨_, _, KF _ ?_, hrun, hended, _, _, rfl, ?_, ⟨_, rfl⟩, hW, hsame.mono (by decide) (by decide)⟩
  · show Steps p.tables e below (T67.setTop (mkF m 220 #[.val (.int p1), .val (.long q2), .second, .val (.long q3), .second, .val (.long q4), .second, .val (.int p5), .val (.int p6), .val (.int wl), .val (.long mm), .second, .val (.long lw), .second, .val (.long lg), .second, .val (.int sz), .val (.long v1), .second, .val (.long v2), .second, .val (.int av), .val (.int bv), .val (.int cv), .val (.ref b32), .val (.long ex), .second] [(.long g67)])) _
    refine XS.lload X67.here hx rfl (hb hby at_220) rfl ?_
    show Steps p.tables e below (T67.setTop (mkF m 222 #[.val (.int p1), .val (.long q2), .second, .val (.long q3), .second, .val (.long q4), .second, .val (.int p5), .val (.int p6), .val (.int wl), .val (.long mm), .second, .val (.long lw), .second, .val (.long lg), .second, .val (.int sz), .val (.long v1), .second, .val (.long v2), .second, .val (.int av), .val (.int bv), .val (.int cv), .val (.ref b32), .val (.long ex), .second] [(.long ex), (.long g67)])) _
    refine XS.lcmp X67.here hx rfl (hb hby at_222) rfl ?_
    show Steps p.tables e below (T67.setTop (mkF m 223 #[.val (.int p1), .val (.long q2), .second, .val (.long q3), .second, .val (.long q4), .second, .val (.int p5), .val (.int p6), .val (.int wl), .val (.long mm), .second, .val (.long lw), .second, .val (.long lg), .second, .val (.int sz), .val (.long v1), .second, .val (.long v2), .second, .val (.int av), .val (.int bv), .val (.int cv), .val (.ref b32), .val (.long ex), .second] [(.int (lcmpW g67 ex))])) _
    refine XS.ifNo X67.here hx rfl (hb hby at_223) rfl ((if0 _ _).trans (teq ((lw_eq g67 ex).mpr hfin)).2) ?_
    show Steps p.tables e below (T67.setTop (mkF m 226 #[.val (.int p1), .val (.long q2), .second, .val (.long q3), .second, .val (.long q4), .second, .val (.int p5), .val (.int p6), .val (.int wl), .val (.long mm), .second, .val (.long lw), .second, .val (.long lg), .second, .val (.int sz), .val (.long v1), .second, .val (.long v2), .second, .val (.int av), .val (.int bv), .val (.int cv), .val (.ref b32), .val (.long ex), .second] [])) _
    refine XS.iconst X67.here hx rfl (hb hby at_226) ?_
    show Steps p.tables e below (T67.setTop (mkF m 227 #[.val (.int p1), .val (.long q2), .second, .val (.long q3), .second, .val (.long q4), .second, .val (.int p5), .val (.int p6), .val (.int wl), .val (.long mm), .second, .val (.long lw), .second, .val (.long lg), .second, .val (.int sz), .val (.long v1), .second, .val (.long v2), .second, .val (.int av), .val (.int bv), .val (.int cv), .val (.ref b32), .val (.long ex), .second] [(.int (1 : Int32))])) _
    refine XS.goto X67.here hx rfl (pc0 := 227) (pc' := 231) rfl (hb hby at_227) (by decide) (by decide) ?_
    show Steps p.tables e below (T67.setTop (mkF m 231 #[.val (.int p1), .val (.long q2), .second, .val (.long q3), .second, .val (.long q4), .second, .val (.int p5), .val (.int p6), .val (.int wl), .val (.long mm), .second, .val (.long lw), .second, .val (.long lg), .second, .val (.int sz), .val (.long v1), .second, .val (.long v2), .second, .val (.int av), .val (.int bv), .val (.int cv), .val (.ref b32), .val (.long ex), .second] [(.int (1 : Int32))])) _
    exact retN X67 hx (t := .boolean) Bd.returns (by simp) (hb hby at_231) hr
  · show Q0 n0 _ T67.heap _
    rw [e67]
    exact ⟨rfl, N68⟩
set_option maxRecDepth 65536 in
set_option maxHeartbeats 40000000 in
theorem comes_1 {Post : Tables → Env → Array Value → State → Outcome → State → Prop} (hpost : ∀ tb e args s v u, (limb_1_1.after args s (.returned v) u = true ∧ limb_1_2.after args s (.returned v) u = true ∧ True) → FrameEnd s (.returned v) u (Jvm.fieldLocs frame_1_writes args s ++ Jvm.arrayLocs frame_1_arrays args s ++ Jvm.staticLocs frame_1_statics s) 16 16512 → Post tb e args s (.returned v) u) :
    ArmFor flags0 classFile x code maxLocals ret World_1 tables_1 room_1 Calls_1 rest_1 Pre_1 Post := by
  intro l hfl _ _ p e ha hc hk s m args below hf hA hF happ hP
  obtain ⟨hcalls, hrest, hpre⟩ := hP
  obtain ⟨-, -, -, hnamed, -, -, -, hat⟩ := (Spec.applies_iff hf).mp happ
  obtain ⟨hg, hn⟩ := and_e (Cond.before_iff.mp (show (Jvm.Cond.and given_1 narrow_1).before args s = true from hpre))
  obtain ⟨gc, gr0⟩ := and_e hg
  obtain ⟨ga0, gr1⟩ := and_e gr0
  obtain ⟨ga1, gr2⟩ := and_e gr1
  obtain ⟨ga2, gr3⟩ := and_e gr2
  obtain ⟨ga3, gr4⟩ := and_e gr3
  obtain ⟨ga4, gr5⟩ := and_e gr4
  have ga5 := gr5
  obtain ⟨w0, w1, w2, w3, w4, w5, rfl⟩ : ∃ w0 w1 w2 w3 w4 w5 : Value, args = #[w0, w1, w2, w3, w4, w5] := by
    have hs : args.size = 6 := by simpa [Cond.value, given_1] using gc
    obtain ⟨L⟩ := args
    match L, hs with
    | [w0, w1, w2, w3, w4, w5], _ => exact ⟨w0, w1, w2, w3, w4, w5, rfl⟩
  have hw := fun d (hd : d ∈ tables_1) => atoms_spec (ws := Jvm.Cond.code x code maxLocals ret :: tables_1) hat d (List.mem_cons_of_mem _ hd)
  have hfit : Fit s := fun {y c} hc i hi => by
    obtain ⟨ha, rfl⟩ := Array.getElem?_eq_some_iff.mp hc
    have q := List.all_eq_true.mp ((Array.all_eq_true_iff_forall_mem.mp hF) _ (Array.getElem_mem ha)) i (List.mem_range.mpr hi)
    simpa [Array.getElem?_eq_getElem hi] using q
  obtain ⟨i0, ei0⟩ := is_v ga0
  obtain rfl : w0 = (.int i0) := Option.some.inj ei0
  obtain ⟨i1, ei1⟩ := isL_v ga1
  obtain rfl : w1 = (.long i1) := Option.some.inj ei1
  obtain ⟨i2, ei2⟩ := isL_v ga2
  obtain rfl : w2 = (.long i2) := Option.some.inj ei2
  obtain ⟨i3, ei3⟩ := isL_v ga3
  obtain rfl : w3 = (.long i3) := Option.some.inj ei3
  obtain ⟨i4, ei4⟩ := is_v ga4
  obtain rfl : w4 = (.int i4) := Option.some.inj ei4
  obtain ⟨i5, ei5⟩ := is_v ga5
  obtain rfl : w5 = (.int i5) := Option.some.inj ei5
  obtain ⟨n, o, h1, h2, h3, _, L, rfl, ⟨rfl, N⟩, hq⟩ := rm0 l s _ hw tables_1 i0 i1 i2 i3 i4 i5  s.heap s.heap.size (Nat.le_refl _)  p e ha hc hk s m _ below hf ((Spec.applies_iff_loose hf).mp happ).1 ⟨rfl, State.Warmed39.refl s, rfl⟩ trivial
  refine ⟨n, _, h1, h2, h3, hpost _ _ _ _ _ _ ⟨Cond.after_iff.mpr rfl, Cond.after_iff.mpr (eq_i res_at (Term.int_eval (1)) rfl), trivial⟩ ⟨hq.1, hq.2.1, (hq.2.2.sift fun y hy => Or.inr (N y hy)).mono (by decide) (by decide)⟩⟩
theorem main_1_1 : Claimed_1_1 := comes_1 fun _ _ _ _ _ _ h hF => ⟨h.1, hF⟩
theorem main_1_2 : Claimed_1_2 := comes_1 fun _ _ _ _ _ _ h hF => ⟨h.2.1, hF⟩
end Jvm.Pilot.@@N@@
namespace Jvm.Pilot.@@N@@
open Jvm Jvm.ClassFile Sem Op Lib Jvm.Free Jvm.Stand Jvm.Pilot.@@N@@.Jvm.D
/-! MADE BY PROGRAM (witnessworld.py) out of the Statement's table words and the real class files: 19 classes; the members and pool entries that the words name. The judged class is class 1, her method 1. -/
namespace start1
open Jvm.ClassFile
def u (s : String) : CpInfo := .utf8 (stringToUtf16 s)
/-- a pool by its gaps: so many unusable entries, then the entry; so many at the end -/
def gap : Nat → List CpInfo → List CpInfo
  | 0, r => r
  | n + 1, r => .unusable :: gap n r
def poolList (es : List (Nat × CpInfo)) (last : Nat) : List CpInfo := es.foldr (fun e r => gap e.1 (e.2 :: r)) (gap last [])
def pool (es : List (Nat × CpInfo)) (last : Nat) : Array CpInfo := ⟨poolList es last⟩
def fileOf (pool : Array CpInfo) (this : Nat) (attrs : Array Attribute := #[]) (ms : Array MethodInfo := #[]) (fl : Nat := 33) (sup : Nat := 0) (ifs : Array Nat := #[]) (fds : Array FieldInfo := #[]) : ClassFile where
  minorVersion := 0
  majorVersion := 65
  constantPool := pool
  accessFlags := fl
  thisClass := this
  superClass := sup
  interfaces := ifs
  fields := fds
  methods := ms
  attributes := attrs
def plain (name : String) (sup : Option ClassId) : Class where
  name := name
  kind := .ordinary
  loader := none
  accessFlags := 33
  super := sup
  interfaces := #[]
  cf := none
  fields := #[]
  methods := #[]
  instanceTypes := #[]
  staticTypes := #[]
  resolved := #[]
  callSites := []
  init := .initialized
  statics := none
  mirror := none

def pool0 : Array CpInfo := pool [(5, u "<init>"), (0, u "()V"), (1, .class_ 10), (1, u "java/lang/Object")] 113

def k0c0 : Code := { maxStack := 0, maxLocals := 1, code := object_method_1_code, exceptionTable := #[], attributes := #[] }
def k0m0 : Method := { name := "<init>", desc := "()V", sig := { parameters := [], returnType := none }, accessFlags := 1, code := some k0c0 }
/-- java/lang/Object -/
def k0 : Class := { plain "java/lang/Object" none with
  accessFlags := 33
  interfaces := #[]
  cf := some (fileOf pool0 8 #[] #[{ accessFlags := 1, nameIndex := 5, descriptorIndex := 6, attributes := #[] }] 33 0 #[] #[])
  fields := #[]
  methods := #[k0m0]
  instanceTypes := #[]
  staticTypes := #[]
  resolved := Array.replicate 124 none
  statics := none }

def pool1 : Array CpInfo := pool [(2, .class_ 4), (1, u "java/lang/Object"), (0, u "<init>"), (0, u "()V"), (0, .long 18446744073709551615), (1, .integer 524288), (0, .methodref 11 12), (0, .class_ 13), (0, .nameAndType 14 15), (0, u "com/example/holdover/holdover/analysis/FixedWidthLongsGetPinLaw"), (0, u "fit"), (0, u "(JIJJJ)J"), (0, .integer 2147483647), (0, .class_ 18), (0, u "com/example/holdover/holdover/analysis/FixedWidthLongs"), (0, .methodref 17 20), (0, .nameAndType 5 21), (0, u "(IJ)V"), (0, .methodref 17 23), (0, .nameAndType 24 21), (0, u "set"), (0, .methodref 17 26), (0, .nameAndType 27 28), (0, u "get"), (0, u "(I)J"), (2, u "law"), (0, u "(IJJJII)Z")] 3

def k1m0 : Method := { name := "<init>", desc := "()V", sig := { parameters := [], returnType := none }, accessFlags := 1, code := none }
def k1c1 : Code := { maxStack := 9, maxLocals := 27, code := code, exceptionTable := #[], attributes := #[] }
def k1m1 : Method := { name := "law", desc := "(IJJJII)Z", sig := { parameters := [.int, .long, .long, .long, .int, .int], returnType := some .boolean }, accessFlags := 9, code := some k1c1 }
def k1c2 : Code := { maxStack := 4, maxLocals := 11, code := method_3_code, exceptionTable := #[], attributes := #[] }
def k1m2 : Method := { name := "fit", desc := "(JIJJJ)J", sig := { parameters := [.long, .int, .long, .long, .long], returnType := some .long }, accessFlags := 10, code := some k1c2 }
/-- com/example/holdover/holdover/analysis/FixedWidthLongsGetPinLaw -/
def k1 : Class := { plain "com/example/holdover/holdover/analysis/FixedWidthLongsGetPinLaw" (some 0) with
  accessFlags := 49
  interfaces := #[]
  cf := some (fileOf pool1 11 #[] #[{ accessFlags := 1, nameIndex := 5, descriptorIndex := 6, attributes := #[] }, { accessFlags := 9, nameIndex := 31, descriptorIndex := 32, attributes := #[] }, { accessFlags := 10, nameIndex := 14, descriptorIndex := 15, attributes := #[] }] 49 2 #[] #[])
  fields := #[]
  methods := #[k1m0, k1m1, k1m2]
  instanceTypes := #[]
  staticTypes := #[]
  resolved := Array.replicate 36 none
  statics := none }

def pool2 : Array CpInfo := pool [(3, .class_ 4), (0, u "com/example/holdover/holdover/analysis/FixedWidthLongs"), (0, .methodref 3 6), (0, .nameAndType 7 8), (0, u "<init>"), (0, u "(IJZ)V"), (0, .methodref 10 11), (0, .class_ 12), (0, .nameAndType 7 13), (0, u "java/lang/Object"), (0, u "()V"), (0, .fieldref 3 15), (0, .nameAndType 16 17), (0, u "size"), (0, u "I"), (0, .class_ 19), (0, u "java/lang/Long"), (0, .methodref 18 21), (0, .nameAndType 22 23), (0, u "numberOfLeadingZeros"), (0, u "(J)I"), (0, .methodref 25 26), (0, .class_ 27), (0, .nameAndType 28 29), (0, u "java/lang/Math"), (0, u "max"), (0, u "(II)I"), (0, .fieldref 3 31), (0, .nameAndType 32 17), (0, u "width"), (0, .long 18446744073709551615), (1, .fieldref 3 36), (0, .nameAndType 37 38), (0, u "mask"), (0, u "J"), (0, .methodref 3 40), (0, .nameAndType 41 42), (0, u "words"), (0, u "()J"), (0, .long 8191), (1, .class_ 46), (0, u "[J"), (0, .fieldref 3 48), (0, .nameAndType 49 50), (0, u "pages"), (0, u "[[J"), (0, .methodref 3 52), (0, .nameAndType 53 54), (0, u "newPage"), (0, u "(I)[J"), (0, .long 64), (1, .long 8192), (1, .methodref 25 60), (0, .nameAndType 61 62), (0, u "min"), (0, u "(JJ)J"), (0, .class_ 64), (0, u "com/example/holdover/holdover/analysis/FixedWidthLongs$Filler"), (3, .class_ 69), (0, u "com/example/holdover/holdover/analysis/FixedWidthLongs$Reader"), (3, u "PAGE_SHIFT"), (2, u "PAGE_MASK"), (1, u "(IJ)V"), (7, u "set"), (0, u "get"), (0, u "(I)J")] 11

def k2c0 : Code := { maxStack := 5, maxLocals := 4, code := prog_26_method_1_code, exceptionTable := #[], attributes := #[] }
def k2m0 : Method := { name := "<init>", desc := "(IJ)V", sig := { parameters := [.int, .long], returnType := none }, accessFlags := 0, code := some k2c0 }
def k2c1 : Code := { maxStack := 5, maxLocals := 6, code := prog_26_method_2_code, exceptionTable := #[], attributes := #[] }
def k2m1 : Method := { name := "<init>", desc := "(IJZ)V", sig := { parameters := [.int, .long, .boolean], returnType := none }, accessFlags := 2, code := some k2c1 }
def k2c2 : Code := { maxStack := 4, maxLocals := 1, code := prog_26_method_4_code, exceptionTable := #[], attributes := #[] }
def k2m2 : Method := { name := "words", desc := "()J", sig := { parameters := [], returnType := some .long }, accessFlags := 2, code := some k2c2 }
def k2c3 : Code := { maxStack := 7, maxLocals := 2, code := prog_26_method_5_code, exceptionTable := #[], attributes := #[] }
def k2m3 : Method := { name := "newPage", desc := "(I)[J", sig := { parameters := [.int], returnType := some (.array .long) }, accessFlags := 2, code := some k2c3 }
def k2c4 : Code := { maxStack := 8, maxLocals := 14, code := prog_26_method_8_code, exceptionTable := #[], attributes := #[] }
def k2m4 : Method := { name := "set", desc := "(IJ)V", sig := { parameters := [.int, .long], returnType := none }, accessFlags := 0, code := some k2c4 }
def k2c5 : Code := { maxStack := 7, maxLocals := 9, code := prog_26_method_9_code, exceptionTable := #[], attributes := #[] }
def k2m5 : Method := { name := "get", desc := "(I)J", sig := { parameters := [.int], returnType := some .long }, accessFlags := 0, code := some k2c5 }
/-- com/example/holdover/holdover/analysis/FixedWidthLongs -/
def k2 : Class := { plain "com/example/holdover/holdover/analysis/FixedWidthLongs" (some 0) with
  accessFlags := 48
  interfaces := #[]
  cf := some (fileOf pool2 3 #[.nestMembers #[68, 63]] #[{ accessFlags := 0, nameIndex := 7, descriptorIndex := 78, attributes := #[] }, { accessFlags := 2, nameIndex := 7, descriptorIndex := 8, attributes := #[] }, { accessFlags := 2, nameIndex := 41, descriptorIndex := 42, attributes := #[] }, { accessFlags := 2, nameIndex := 53, descriptorIndex := 54, attributes := #[] }, { accessFlags := 0, nameIndex := 86, descriptorIndex := 78, attributes := #[] }, { accessFlags := 0, nameIndex := 87, descriptorIndex := 88, attributes := #[] }] 48 10 #[] #[{ accessFlags := 26, nameIndex := 73, descriptorIndex := 17, attributes := #[] }, { accessFlags := 26, nameIndex := 76, descriptorIndex := 17, attributes := #[] }, { accessFlags := 18, nameIndex := 49, descriptorIndex := 50, attributes := #[] }, { accessFlags := 18, nameIndex := 16, descriptorIndex := 17, attributes := #[] }, { accessFlags := 18, nameIndex := 32, descriptorIndex := 17, attributes := #[] }, { accessFlags := 18, nameIndex := 37, descriptorIndex := 38, attributes := #[] }])
  fields := #[{ name := "PAGE_SHIFT", type := .int, accessFlags := 26, slot := 0, constantValue := 0 }, { name := "PAGE_MASK", type := .int, accessFlags := 26, slot := 1, constantValue := 0 }, { name := "pages", type := (.array (.array .long)), accessFlags := 18, slot := 0, constantValue := 0 }, { name := "size", type := .int, accessFlags := 18, slot := 1, constantValue := 0 }, { name := "width", type := .int, accessFlags := 18, slot := 2, constantValue := 0 }, { name := "mask", type := .long, accessFlags := 18, slot := 3, constantValue := 0 }]
  methods := #[k2m0, k2m1, k2m2, k2m3, k2m4, k2m5]
  instanceTypes := #[(.array (.array .long)), .int, .int, .long]
  staticTypes := #[.int, .int]
  resolved := Array.replicate 100 none
  statics := none }

def pool3 : Array CpInfo := pool [(1, .class_ 2), (0, u "java/io/Serializable"), (0, .class_ 4), (0, u "java/lang/Object")] 2

/-- java/io/Serializable -/
def k3 : Class := { plain "java/io/Serializable" (some 0) with
  accessFlags := 1537
  interfaces := #[]
  cf := some (fileOf pool3 1 #[] #[] 1537 3 #[] #[])
  fields := #[]
  methods := #[]
  instanceTypes := #[]
  staticTypes := #[]
  resolved := Array.replicate 7 none
  statics := none }

def pool4 : Array CpInfo := pool [(2, .class_ 4), (1, u "java/lang/Object"), (0, u "<init>"), (0, u "()V"), (1, .class_ 10), (1, u "java/lang/Number"), (2, .class_ 14), (0, u "java/io/Serializable"), (0, u "serialVersionUID"), (0, u "J")] 20

def k4m0 : Method := { name := "<init>", desc := "()V", sig := { parameters := [], returnType := none }, accessFlags := 1, code := none }
/-- java/lang/Number -/
def k4 : Class := { plain "java/lang/Number" (some 0) with
  accessFlags := 1057
  interfaces := #[3]
  cf := some (fileOf pool4 8 #[] #[{ accessFlags := 1, nameIndex := 5, descriptorIndex := 6, attributes := #[] }] 1057 2 #[13] #[{ accessFlags := 26, nameIndex := 15, descriptorIndex := 16, attributes := #[] }])
  fields := #[{ name := "serialVersionUID", type := .long, accessFlags := 26, slot := 0, constantValue := 0 }]
  methods := #[k4m0]
  instanceTypes := #[]
  staticTypes := #[.long]
  resolved := Array.replicate 37 none
  statics := none }

def pool5 : Array CpInfo := pool [(1, .class_ 2), (0, u "java/lang/Comparable"), (0, .class_ 4), (0, u "java/lang/Object")] 7

/-- java/lang/Comparable -/
def k5 : Class := { plain "java/lang/Comparable" (some 0) with
  accessFlags := 1537
  interfaces := #[]
  cf := some (fileOf pool5 1 #[] #[] 1537 3 #[] #[])
  fields := #[]
  methods := #[]
  instanceTypes := #[]
  staticTypes := #[]
  resolved := Array.replicate 12 none
  statics := none }

def pool6 : Array CpInfo := pool [(1, .class_ 2), (0, u "java/lang/constant/Constable"), (0, .class_ 4), (0, u "java/lang/Object")] 6

/-- java/lang/constant/Constable -/
def k6 : Class := { plain "java/lang/constant/Constable" (some 0) with
  accessFlags := 1537
  interfaces := #[]
  cf := some (fileOf pool6 1 #[] #[] 1537 3 #[] #[])
  fields := #[]
  methods := #[]
  instanceTypes := #[]
  staticTypes := #[]
  resolved := Array.replicate 11 none
  statics := none }

def pool7 : Array CpInfo := pool [(1, .class_ 2), (0, u "java/lang/constant/ConstantDesc"), (0, .class_ 4), (0, u "java/lang/Object")] 32

/-- java/lang/constant/ConstantDesc -/
def k7 : Class := { plain "java/lang/constant/ConstantDesc" (some 0) with
  accessFlags := 1537
  interfaces := #[]
  cf := some (fileOf pool7 1 #[] #[] 1537 3 #[] #[])
  fields := #[]
  methods := #[]
  instanceTypes := #[]
  staticTypes := #[]
  resolved := Array.replicate 37 none
  statics := none }

def pool8 : Array CpInfo := pool [(1, .class_ 2), (0, u "java/lang/Long"), (15, .class_ 20), (1, u "java/lang/Integer"), (79, u "numberOfLeadingZeros"), (0, u "(J)I"), (133, .class_ 237), (1, u "java/lang/Long$LongCache"), (33, .class_ 272), (0, u "java/lang/Number"), (2, u "value"), (0, u "J"), (31, .methodref 18 309), (0, .nameAndType 100 310), (0, u "(I)I"), (50, u "TYPE"), (0, u "Ljava/lang/Class;"), (0, .class_ 364), (0, u "java/lang/Comparable"), (0, .class_ 366), (0, u "java/lang/constant/Constable"), (0, .class_ 368), (0, u "java/lang/constant/ConstantDesc"), (0, u "MIN_VALUE"), (1, u "MAX_VALUE"), (4, u "SIZE"), (0, u "I"), (1, u "BYTES"), (1, u "serialVersionUID")] 142

def k8c0 : Code := { maxStack := 3, maxLocals := 3, code := jdk_35_method_48_code, exceptionTable := #[], attributes := #[] }
def k8m0 : Method := { name := "numberOfLeadingZeros", desc := "(J)I", sig := { parameters := [.long], returnType := some .int }, accessFlags := 9, code := some k8c0 }
/-- java/lang/Long -/
def k8 : Class := { plain "java/lang/Long" (some 4) with
  accessFlags := 49
  interfaces := #[5, 6, 7]
  cf := some (fileOf pool8 1 #[.nestMembers #[235]] #[{ accessFlags := 9, nameIndex := 100, descriptorIndex := 101, attributes := #[] }] 49 271 #[363, 365, 367] #[{ accessFlags := 25, nameIndex := 369, descriptorIndex := 276, attributes := #[] }, { accessFlags := 25, nameIndex := 371, descriptorIndex := 276, attributes := #[] }, { accessFlags := 25, nameIndex := 361, descriptorIndex := 362, attributes := #[] }, { accessFlags := 18, nameIndex := 275, descriptorIndex := 276, attributes := #[] }, { accessFlags := 25, nameIndex := 376, descriptorIndex := 377, attributes := #[] }, { accessFlags := 25, nameIndex := 379, descriptorIndex := 377, attributes := #[] }, { accessFlags := 26, nameIndex := 381, descriptorIndex := 276, attributes := #[] }])
  fields := #[{ name := "MIN_VALUE", type := .long, accessFlags := 25, slot := 0, constantValue := 0 }, { name := "MAX_VALUE", type := .long, accessFlags := 25, slot := 1, constantValue := 0 }, { name := "TYPE", type := (.object "java/lang/Class"), accessFlags := 25, slot := 2, constantValue := 0 }, { name := "value", type := .long, accessFlags := 18, slot := 0, constantValue := 0 }, { name := "SIZE", type := .int, accessFlags := 25, slot := 3, constantValue := 0 }, { name := "BYTES", type := .int, accessFlags := 25, slot := 4, constantValue := 0 }, { name := "serialVersionUID", type := .long, accessFlags := 26, slot := 5, constantValue := 0 }]
  methods := #[k8m0]
  instanceTypes := #[.long]
  staticTypes := #[.long, .long, (.object "java/lang/Class"), .int, .int, .long]
  resolved := Array.replicate 524 none
  statics := none }

def pool9 : Array CpInfo := pool [(1, .class_ 2), (0, u "java/lang/Integer"), (16, u "digits"), (0, u "[C"), (32, u "numberOfLeadingZeros"), (0, u "(I)I"), (30, u "DigitOnes"), (0, u "[B"), (2, u "DigitTens"), (99, .class_ 190), (0, u "java/lang/Integer$IntegerCache"), (3, u "I"), (8, .class_ 204), (0, u "java/lang/Number"), (2, u "value"), (56, .integer 65536), (37, u "TYPE"), (0, u "Ljava/lang/Class;"), (0, .class_ 305), (0, u "java/lang/Comparable"), (0, .class_ 307), (0, u "java/lang/constant/Constable"), (0, .class_ 309), (0, u "java/lang/constant/ConstantDesc"), (0, u "MIN_VALUE"), (1, u "MAX_VALUE"), (3, u "SIZE"), (1, u "BYTES"), (1, u "serialVersionUID"), (0, u "J")] 131

def k9c0 : Code := { maxStack := 3, maxLocals := 2, code := jdk_33_method_47_code, exceptionTable := #[], attributes := #[] }
def k9m0 : Method := { name := "numberOfLeadingZeros", desc := "(I)I", sig := { parameters := [.int], returnType := some .int }, accessFlags := 9, code := some k9c0 }
/-- java/lang/Integer -/
def k9 : Class := { plain "java/lang/Integer" (some 4) with
  accessFlags := 49
  interfaces := #[5, 6, 7]
  cf := some (fileOf pool9 1 #[.nestMembers #[189]] #[{ accessFlags := 9, nameIndex := 53, descriptorIndex := 54, attributes := #[] }] 49 203 #[304, 306, 308] #[{ accessFlags := 25, nameIndex := 310, descriptorIndex := 194, attributes := #[] }, { accessFlags := 25, nameIndex := 312, descriptorIndex := 194, attributes := #[] }, { accessFlags := 25, nameIndex := 302, descriptorIndex := 303, attributes := #[] }, { accessFlags := 24, nameIndex := 19, descriptorIndex := 20, attributes := #[] }, { accessFlags := 24, nameIndex := 89, descriptorIndex := 86, attributes := #[] }, { accessFlags := 24, nameIndex := 85, descriptorIndex := 86, attributes := #[] }, { accessFlags := 18, nameIndex := 207, descriptorIndex := 194, attributes := #[] }, { accessFlags := 25, nameIndex := 316, descriptorIndex := 194, attributes := #[] }, { accessFlags := 25, nameIndex := 318, descriptorIndex := 194, attributes := #[] }, { accessFlags := 26, nameIndex := 320, descriptorIndex := 321, attributes := #[] }])
  fields := #[{ name := "MIN_VALUE", type := .int, accessFlags := 25, slot := 0, constantValue := 0 }, { name := "MAX_VALUE", type := .int, accessFlags := 25, slot := 1, constantValue := 0 }, { name := "TYPE", type := (.object "java/lang/Class"), accessFlags := 25, slot := 2, constantValue := 0 }, { name := "digits", type := (.array .char), accessFlags := 24, slot := 3, constantValue := 0 }, { name := "DigitTens", type := (.array .byte), accessFlags := 24, slot := 4, constantValue := 0 }, { name := "DigitOnes", type := (.array .byte), accessFlags := 24, slot := 5, constantValue := 0 }, { name := "value", type := .int, accessFlags := 18, slot := 0, constantValue := 0 }, { name := "SIZE", type := .int, accessFlags := 25, slot := 6, constantValue := 0 }, { name := "BYTES", type := .int, accessFlags := 25, slot := 7, constantValue := 0 }, { name := "serialVersionUID", type := .long, accessFlags := 26, slot := 8, constantValue := 0 }]
  methods := #[k9m0]
  instanceTypes := #[.int]
  staticTypes := #[.int, .int, (.object "java/lang/Class"), (.array .char), (.array .byte), (.array .byte), .int, .int, .long]
  resolved := Array.replicate 453 none
  statics := none }

def pool10 : Array CpInfo := pool [(1, .class_ 2), (0, u "java/lang/Math"), (1, .class_ 6), (1, u "java/lang/Object"), (0, u "<init>"), (0, u "()V"), (89, .class_ 100), (1, u "java/lang/Math$RandomNumberGeneratorHolder"), (20, u "(JJ)J"), (50, u "negativeZeroFloatBits"), (0, u "J"), (2, u "negativeZeroDoubleBits"), (21, u "max"), (2, u "min"), (43, u "$assertionsDisabled"), (0, u "Z"), (88, u "(II)I"), (2, u "twoToTheDoubleScaleDown"), (0, u "D"), (4, u "twoToTheDoubleScaleUp"), (9, u "E"), (3, u "PI"), (2, u "TAU"), (2, u "DEGREES_TO_RADIANS"), (0, u "RADIANS_TO_DEGREES")] 94

def k10m0 : Method := { name := "<init>", desc := "()V", sig := { parameters := [], returnType := none }, accessFlags := 2, code := none }
def k10c1 : Code := { maxStack := 2, maxLocals := 2, code := jdk_29_method_65_code, exceptionTable := #[], attributes := #[] }
def k10m1 : Method := { name := "max", desc := "(II)I", sig := { parameters := [.int, .int], returnType := some .int }, accessFlags := 9, code := some k10c1 }
def k10c2 : Code := { maxStack := 4, maxLocals := 4, code := jdk_29_method_70_code, exceptionTable := #[], attributes := #[] }
def k10m2 : Method := { name := "min", desc := "(JJ)J", sig := { parameters := [.long, .long], returnType := some .long }, accessFlags := 9, code := some k10c2 }
/-- java/lang/Math -/
def k10 : Class := { plain "java/lang/Math" (some 0) with
  accessFlags := 49
  interfaces := #[]
  cf := some (fileOf pool10 1 #[.nestMembers #[98]] #[{ accessFlags := 2, nameIndex := 7, descriptorIndex := 8, attributes := #[] }, { accessFlags := 9, nameIndex := 198, descriptorIndex := 335, attributes := #[] }, { accessFlags := 9, nameIndex := 201, descriptorIndex := 121, attributes := #[] }] 49 4 #[] #[{ accessFlags := 25, nameIndex := 354, descriptorIndex := 339, attributes := #[] }, { accessFlags := 25, nameIndex := 358, descriptorIndex := 339, attributes := #[] }, { accessFlags := 25, nameIndex := 361, descriptorIndex := 339, attributes := #[] }, { accessFlags := 26, nameIndex := 364, descriptorIndex := 339, attributes := #[] }, { accessFlags := 26, nameIndex := 365, descriptorIndex := 339, attributes := #[] }, { accessFlags := 26, nameIndex := 172, descriptorIndex := 173, attributes := #[] }, { accessFlags := 26, nameIndex := 176, descriptorIndex := 173, attributes := #[] }, { accessFlags := 8, nameIndex := 344, descriptorIndex := 339, attributes := #[] }, { accessFlags := 8, nameIndex := 338, descriptorIndex := 339, attributes := #[] }, { accessFlags := 4120, nameIndex := 245, descriptorIndex := 246, attributes := #[] }])
  fields := #[{ name := "E", type := .double, accessFlags := 25, slot := 0, constantValue := 0 }, { name := "PI", type := .double, accessFlags := 25, slot := 1, constantValue := 0 }, { name := "TAU", type := .double, accessFlags := 25, slot := 2, constantValue := 0 }, { name := "DEGREES_TO_RADIANS", type := .double, accessFlags := 26, slot := 3, constantValue := 0 }, { name := "RADIANS_TO_DEGREES", type := .double, accessFlags := 26, slot := 4, constantValue := 0 }, { name := "negativeZeroFloatBits", type := .long, accessFlags := 26, slot := 5, constantValue := 0 }, { name := "negativeZeroDoubleBits", type := .long, accessFlags := 26, slot := 6, constantValue := 0 }, { name := "twoToTheDoubleScaleUp", type := .double, accessFlags := 8, slot := 7, constantValue := 0 }, { name := "twoToTheDoubleScaleDown", type := .double, accessFlags := 8, slot := 8, constantValue := 0 }, { name := "$assertionsDisabled", type := .boolean, accessFlags := 4120, slot := 9, constantValue := 0 }]
  methods := #[k10m0, k10m1, k10m2]
  instanceTypes := #[]
  staticTypes := #[.double, .double, .double, .double, .double, .long, .long, .double, .double, .boolean]
  resolved := Array.replicate 460 none
  statics := none }

def pool11 : Array CpInfo := pool [(1, u "java/lang/Cloneable"), (0, .class_ 1), (0, u "java/lang/Object"), (0, .class_ 3)] 3

/-- java/lang/Cloneable -/
def k11 : Class := { plain "java/lang/Cloneable" (some 0) with
  accessFlags := 1537
  interfaces := #[]
  cf := some (fileOf pool11 2 #[] #[] 1537 4 #[] #[])
  fields := #[]
  methods := #[]
  instanceTypes := #[]
  staticTypes := #[]
  resolved := Array.replicate 8 none
  statics := none }

/-- the primitive byte -/
def k12 : Class := { plain "byte" none with kind := .primitive 'B', accessFlags := 0x411 }
/-- [B -/
def k13 : Class := { plain "[B" (some 0) with kind := .array 12 .byte, interfaces := #[11, 3], accessFlags := 1041 }

/-- the primitive int -/
def k14 : Class := { plain "int" none with kind := .primitive 'I', accessFlags := 0x411 }
/-- [I -/
def k15 : Class := { plain "[I" (some 0) with kind := .array 14 .int, interfaces := #[11, 3], accessFlags := 1041 }

/-- the primitive long -/
def k16 : Class := { plain "long" none with kind := .primitive 'J', accessFlags := 0x411 }
/-- [J -/
def k17 : Class := { plain "[J" (some 0) with kind := .array 16 .long, interfaces := #[11, 3], accessFlags := 1041 }

/-- [L[J; -/
def k18 : Class := { plain "[[J" (some 0) with kind := .array 17 (.array .long), interfaces := #[11, 3], accessFlags := 1041 }

def heap : Heap := #[{ cls := 18, slots := #[.null], vm := .none }]
def classes : Array Class := #[k0, k1, k2, k3, k4, k5, k6, k7, k8, k9, k10, k11, k12, k13, k14, k15, k16, k17, k18]
def interned : List (Array UInt16 × Addr) := []
def slotsUsed : Nat := 1
def theMethod : MethodId := ⟨1, 1⟩
def args0 : Array Value := #[.int 5, .long 5, .long 5, .long 5, .int 5, .int 5]
def aboutOver (below : List Frame) : State where
  vm := { classes := classes, interned := interned.toArray }
  heap := heap
  slotsUsed := slotsUsed
  threads := #[{ frames := .invoking theMethod args0 :: below }]
def below0 : List Frame := [.native { method := ⟨0, 0⟩, args := #[] }]
def about1 : State := aboutOver below0
def p0 : Program := .bare "" "" ""
def e0 : Env := launch0.env 0 0 0
theorem w_frames : about1.frames = Frame.invoking theMethod args0 :: below0 := rfl
set_option maxRecDepth 65536 in
theorem w_args : argsFit about1.vm theMethod args0 = true := by decide +kernel
set_option maxRecDepth 65536 in
theorem w_heap : heapFits about1 = true := by decide +kernel
set_option maxRecDepth 65536 in
theorem w_runnable : about1.curStatus? = some .runnable := by decide +kernel
set_option maxRecDepth 65536 in
theorem w_alone : about1.alone = true := by decide +kernel
set_option maxRecDepth 65536 in
theorem w_named : about1.methodNamed? x = some theMethod := by decide +kernel
set_option maxRecDepth 65536 in
theorem w_hears : about1.hears theMethod below0 = true := by decide +kernel
set_option maxRecDepth 65536 in
theorem w_ripe : about1.ripe theMethod args0 below0 = true := by decide +kernel
theorem w_running : about1.status = .running := rfl
set_option maxRecDepth 65536 in
theorem w_room : about1.hasRoom e0.platform room_1 = true :=
  launch0.hasRoom_least _ room_1 (by decide +kernel) (by decide +kernel) (by decide +kernel) (by decide +kernel) (by decide +kernel) (by decide +kernel)
theorem allAtoms_all (ts : List Jvm.Cond) (a : Array Jvm.Value) (st : Jvm.State) : (allAtoms ts).before a st = ts.all (fun c => c.before a st) := by
  induction ts with
  | nil => rfl
  | cons c t ih =>
    show (Jvm.Cond.and c (allAtoms t)).before a st = _
    rw [Jvm.Cond.before_and, ih, List.all_cons]
def words1 : List Jvm.Cond := Jvm.Cond.code x code maxLocals ret :: tables_1
/-- a 'code' word, met by the world's own term for the bytes: nothing is compared byte by byte -/
theorem code_word {y : MethodName} {bytes : ByteArray} {mx : Nat} {rt : Option FieldType} {a : Array Value} {s : State} {m : MethodId} {meth : Method} {c : Code} (h1 : s.methodNamed? y = some m) (h2 : s.vm.method? m = some meth) (h3 : meth.code = some c) (h4 : c.code = bytes)
    (h5 : (c.maxLocals == mx && c.exceptionTable.isEmpty && decide (c.maxStack ≤ mostOperands) && decide (meth.sig.returnType = rt) && !meth.locks && decide (parseMethodDescriptor y.desc = some meth.sig)) = true) : (Jvm.Cond.code y bytes mx rt).before a s = true := by
  simp only [Bool.and_eq_true, beq_iff_eq, Bool.not_eq_true', decide_eq_true_eq] at h5
  obtain ⟨⟨⟨⟨⟨g1, g2⟩, g3⟩, g4⟩, g5⟩, g6⟩ := h5
  simp [Cond.before, Cond.holds, Cond.value, h1, h2, h3, h4, g1, g2, g3, g4, g5, g6]
def isCode : Jvm.Cond → Bool
  | .code _ _ _ _ => true
  | _ => false
theorem all_split {L : List Jvm.Cond} {P : Jvm.Cond → Bool} (h1 : L.all (fun c => isCode c || P c) = true) (h2 : ∀ c ∈ L.filter isCode, P c = true) : L.all P = true := by
  refine List.all_eq_true.mpr fun c hc => ?_
  have h := List.all_eq_true.mp h1 c hc
  rcases Bool.eq_false_or_eq_true (isCode c) with hi | hi
  · exact h2 c (List.mem_filter.mpr ⟨hc, hi⟩)
  · simpa [hi] using h
set_option maxRecDepth 65536 in
theorem w_c0 : (Jvm.Cond.code x code maxLocals ret).before args0 about1 = true := code_word (m := ⟨1, 1⟩) (meth := k1m1) (c := k1c1) (by decide +kernel) rfl rfl rfl (by decide +kernel)
set_option maxRecDepth 65536 in
theorem w_c1 : (Jvm.Cond.code ({ cls := "com/example/holdover/holdover/analysis/FixedWidthLongsGetPinLaw", name := "fit", desc := "(JIJJJ)J" } : Jvm.MethodName) method_3_code (11 : Nat) (Option.some Jvm.ClassFile.FieldType.long)).before args0 about1 = true := code_word (m := ⟨1, 2⟩) (meth := k1m2) (c := k1c2) (by decide +kernel) rfl rfl rfl (by decide +kernel)
set_option maxRecDepth 65536 in
theorem w_c2 : (Jvm.Cond.code ({ cls := "com/example/holdover/holdover/analysis/FixedWidthLongs", name := "<init>", desc := "(IJ)V" } : Jvm.MethodName) prog_26_method_1_code (4 : Nat) (Option.none : Option Jvm.ClassFile.FieldType)).before args0 about1 = true := code_word (m := ⟨2, 0⟩) (meth := k2m0) (c := k2c0) (by decide +kernel) rfl rfl rfl (by decide +kernel)
set_option maxRecDepth 65536 in
theorem w_c3 : (Jvm.Cond.code ({ cls := "com/example/holdover/holdover/analysis/FixedWidthLongs", name := "<init>", desc := "(IJZ)V" } : Jvm.MethodName) prog_26_method_2_code (6 : Nat) (Option.none : Option Jvm.ClassFile.FieldType)).before args0 about1 = true := code_word (m := ⟨2, 1⟩) (meth := k2m1) (c := k2c1) (by decide +kernel) rfl rfl rfl (by decide +kernel)
set_option maxRecDepth 65536 in
theorem w_c4 : (Jvm.Cond.code ({ cls := "java/lang/Object", name := "<init>", desc := "()V" } : Jvm.MethodName) object_method_1_code (1 : Nat) (Option.none : Option Jvm.ClassFile.FieldType)).before args0 about1 = true := code_word (m := ⟨0, 0⟩) (meth := k0m0) (c := k0c0) (by decide +kernel) rfl rfl rfl (by decide +kernel)
set_option maxRecDepth 65536 in
theorem w_c5 : (Jvm.Cond.code ({ cls := "java/lang/Long", name := "numberOfLeadingZeros", desc := "(J)I" } : Jvm.MethodName) jdk_35_method_48_code (3 : Nat) (Option.some Jvm.ClassFile.FieldType.int)).before args0 about1 = true := code_word (m := ⟨8, 0⟩) (meth := k8m0) (c := k8c0) (by decide +kernel) rfl rfl rfl (by decide +kernel)
set_option maxRecDepth 65536 in
theorem w_c6 : (Jvm.Cond.code ({ cls := "java/lang/Integer", name := "numberOfLeadingZeros", desc := "(I)I" } : Jvm.MethodName) jdk_33_method_47_code (2 : Nat) (Option.some Jvm.ClassFile.FieldType.int)).before args0 about1 = true := code_word (m := ⟨9, 0⟩) (meth := k9m0) (c := k9c0) (by decide +kernel) rfl rfl rfl (by decide +kernel)
set_option maxRecDepth 65536 in
theorem w_c7 : (Jvm.Cond.code ({ cls := "java/lang/Math", name := "max", desc := "(II)I" } : Jvm.MethodName) jdk_29_method_65_code (2 : Nat) (Option.some Jvm.ClassFile.FieldType.int)).before args0 about1 = true := code_word (m := ⟨10, 1⟩) (meth := k10m1) (c := k10c1) (by decide +kernel) rfl rfl rfl (by decide +kernel)
set_option maxRecDepth 65536 in
theorem w_c8 : (Jvm.Cond.code ({ cls := "com/example/holdover/holdover/analysis/FixedWidthLongs", name := "words", desc := "()J" } : Jvm.MethodName) prog_26_method_4_code (1 : Nat) (Option.some Jvm.ClassFile.FieldType.long)).before args0 about1 = true := code_word (m := ⟨2, 2⟩) (meth := k2m2) (c := k2c2) (by decide +kernel) rfl rfl rfl (by decide +kernel)
set_option maxRecDepth 65536 in
theorem w_c9 : (Jvm.Cond.code ({ cls := "com/example/holdover/holdover/analysis/FixedWidthLongs", name := "newPage", desc := "(I)[J" } : Jvm.MethodName) prog_26_method_5_code (2 : Nat) (Option.some (Jvm.ClassFile.FieldType.array Jvm.ClassFile.FieldType.long))).before args0 about1 = true := code_word (m := ⟨2, 3⟩) (meth := k2m3) (c := k2c3) (by decide +kernel) rfl rfl rfl (by decide +kernel)
set_option maxRecDepth 65536 in
theorem w_c10 : (Jvm.Cond.code ({ cls := "java/lang/Math", name := "min", desc := "(JJ)J" } : Jvm.MethodName) jdk_29_method_70_code (4 : Nat) (Option.some Jvm.ClassFile.FieldType.long)).before args0 about1 = true := code_word (m := ⟨10, 2⟩) (meth := k10m2) (c := k10c2) (by decide +kernel) rfl rfl rfl (by decide +kernel)
set_option maxRecDepth 65536 in
theorem w_c11 : (Jvm.Cond.code ({ cls := "com/example/holdover/holdover/analysis/FixedWidthLongs", name := "set", desc := "(IJ)V" } : Jvm.MethodName) prog_26_method_8_code (14 : Nat) (Option.none : Option Jvm.ClassFile.FieldType)).before args0 about1 = true := code_word (m := ⟨2, 4⟩) (meth := k2m4) (c := k2c4) (by decide +kernel) rfl rfl rfl (by decide +kernel)
set_option maxRecDepth 65536 in
theorem w_c12 : (Jvm.Cond.code ({ cls := "com/example/holdover/holdover/analysis/FixedWidthLongs", name := "get", desc := "(I)J" } : Jvm.MethodName) prog_26_method_9_code (9 : Nat) (Option.some Jvm.ClassFile.FieldType.long)).before args0 about1 = true := code_word (m := ⟨2, 5⟩) (meth := k2m5) (c := k2c5) (by decide +kernel) rfl rfl rfl (by decide +kernel)
def codes1 : List Jvm.Cond := [Jvm.Cond.code x code maxLocals ret, Jvm.Cond.code ({ cls := "com/example/holdover/holdover/analysis/FixedWidthLongsGetPinLaw", name := "fit", desc := "(JIJJJ)J" } : Jvm.MethodName) method_3_code (11 : Nat) (Option.some Jvm.ClassFile.FieldType.long), Jvm.Cond.code ({ cls := "com/example/holdover/holdover/analysis/FixedWidthLongs", name := "<init>", desc := "(IJ)V" } : Jvm.MethodName) prog_26_method_1_code (4 : Nat) (Option.none : Option Jvm.ClassFile.FieldType), Jvm.Cond.code ({ cls := "com/example/holdover/holdover/analysis/FixedWidthLongs", name := "<init>", desc := "(IJZ)V" } : Jvm.MethodName) prog_26_method_2_code (6 : Nat) (Option.none : Option Jvm.ClassFile.FieldType), Jvm.Cond.code ({ cls := "java/lang/Object", name := "<init>", desc := "()V" } : Jvm.MethodName) object_method_1_code (1 : Nat) (Option.none : Option Jvm.ClassFile.FieldType), Jvm.Cond.code ({ cls := "java/lang/Long", name := "numberOfLeadingZeros", desc := "(J)I" } : Jvm.MethodName) jdk_35_method_48_code (3 : Nat) (Option.some Jvm.ClassFile.FieldType.int), Jvm.Cond.code ({ cls := "java/lang/Integer", name := "numberOfLeadingZeros", desc := "(I)I" } : Jvm.MethodName) jdk_33_method_47_code (2 : Nat) (Option.some Jvm.ClassFile.FieldType.int), Jvm.Cond.code ({ cls := "java/lang/Math", name := "max", desc := "(II)I" } : Jvm.MethodName) jdk_29_method_65_code (2 : Nat) (Option.some Jvm.ClassFile.FieldType.int), Jvm.Cond.code ({ cls := "com/example/holdover/holdover/analysis/FixedWidthLongs", name := "words", desc := "()J" } : Jvm.MethodName) prog_26_method_4_code (1 : Nat) (Option.some Jvm.ClassFile.FieldType.long), Jvm.Cond.code ({ cls := "com/example/holdover/holdover/analysis/FixedWidthLongs", name := "newPage", desc := "(I)[J" } : Jvm.MethodName) prog_26_method_5_code (2 : Nat) (Option.some (Jvm.ClassFile.FieldType.array Jvm.ClassFile.FieldType.long)), Jvm.Cond.code ({ cls := "java/lang/Math", name := "min", desc := "(JJ)J" } : Jvm.MethodName) jdk_29_method_70_code (4 : Nat) (Option.some Jvm.ClassFile.FieldType.long), Jvm.Cond.code ({ cls := "com/example/holdover/holdover/analysis/FixedWidthLongs", name := "set", desc := "(IJ)V" } : Jvm.MethodName) prog_26_method_8_code (14 : Nat) (Option.none : Option Jvm.ClassFile.FieldType), Jvm.Cond.code ({ cls := "com/example/holdover/holdover/analysis/FixedWidthLongs", name := "get", desc := "(I)J" } : Jvm.MethodName) prog_26_method_9_code (9 : Nat) (Option.some Jvm.ClassFile.FieldType.long)]
set_option maxRecDepth 65536 in
theorem codes_eq : words1.filter isCode = codes1 := rfl
theorem w_codes : ∀ c ∈ words1.filter isCode, c.before args0 about1 = true := by
  rw [codes_eq]
  intro c hc
  simp only [codes1, List.mem_cons, List.not_mem_nil, or_false] at hc
  rcases hc with rfl | rfl | rfl | rfl | rfl | rfl | rfl | rfl | rfl | rfl | rfl | rfl | rfl
  · exact w_c0
  · exact w_c1
  · exact w_c2
  · exact w_c3
  · exact w_c4
  · exact w_c5
  · exact w_c6
  · exact w_c7
  · exact w_c8
  · exact w_c9
  · exact w_c10
  · exact w_c11
  · exact w_c12
set_option maxRecDepth 65536 in
theorem w_t1 : (words1.take 24).all (fun c => isCode c || c.before args0 about1) = true := by decide +kernel
set_option maxRecDepth 65536 in
theorem w_t2 : ((words1.drop 24).take 24).all (fun c => isCode c || c.before args0 about1) = true := by decide +kernel
set_option maxRecDepth 65536 in
theorem w_t3 : ((words1.drop 24).drop 24).all (fun c => isCode c || c.before args0 about1) = true := by decide +kernel
theorem w_tables : (allAtoms (Jvm.Cond.code x code maxLocals ret :: tables_1)).before args0 about1 = true := by
  rw [allAtoms_all]
  show words1.all (fun c => c.before args0 about1) = true
  refine all_split ?_ w_codes
  rw [← List.take_append_drop 24 words1, List.all_append, w_t1, ← List.take_append_drop 24 (words1.drop 24), List.all_append, w_t2, w_t3]
  rfl
set_option maxRecDepth 65536 in
theorem w_case : (Jvm.Cond.and given_1 narrow_1).before args0 about1 = true := by decide +kernel
theorem w_applies : (headSpec (Jvm.Cond.code x code maxLocals ret :: tables_1) room_1).applies x e0.platform about1 = true :=
  (Spec.applies_iff w_frames).mpr ⟨w_running, w_runnable, w_alone, w_named, w_hears, w_ripe, w_room, w_tables⟩
theorem atStart : AtStart classFile x code maxLocals ret World_1 tables_1 room_1 Calls_1 rest_1 Pre_1 launch0 p0 e0 about1 theMethod args0 below0 :=
  ⟨lists_1, trivial, launch0.admits_env _ _ _, launch0.least_env, fairChoices_fair.cas, fairChoices_fair.clock, w_frames, w_args, w_heap, w_applies, trivial, trivial, w_case⟩
end start1
theorem witness_1 : WitnessClaimed_1 := ⟨start1.p0, start1.e0, start1.about1, start1.theMethod, start1.args0, start1.below0, start1.atStart⟩
end Jvm.Pilot.@@N@@
