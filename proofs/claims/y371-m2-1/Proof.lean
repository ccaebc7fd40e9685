import JvmDerived
import JvmDerived.Pilot.@@N@@Statement
import JvmDerived.Pilot.@@N@@Code
set_option linter.unusedVariables false
set_option linter.unusedSimpArgs false
namespace Jvm.RoadKit
open Sem ClassFile Op Lib Jvm.Stand Jvm.Free Jvm.LawKit
section New
variable {p : Program} {l : Launch} {e : Env} {R : Room} {s : State} {m : MethodId} {args : Array Value} {below : List Frame} {meth : Method} {c : Code} {T : State} {locs : List Loc} {cells slots : Nat}
theorem retI (X : Stand p l e R s m args below meth c T locs cells slots) (hx : p.tables.exec = Jvm.exec) {pc : Nat} {Ls : Array Slot} {z : Int32} {rest : List Value} (hret : meth.sig.returnType = some .int) (hd : decode c.code pc = .ok (.ireturn, 1)) {fs : List Frame}
    (hl : ∀ (f : JFrame) (acts : List Action), f.method = m → f.locked = none → f.entered = [] → (doReturn e (T.setTop f) acts (some (.int z))).1 = T.setFrames fs) : Steps p.tables e below (T.setTop (mkF m pc Ls (.int z :: rest))) (T.setFrames fs) := by
  have hm' : T.vm.method? m = some meth := X.method'
  have hn : narrow .int (.int z) = .int z := rfl
  show Steps p.tables e below (T.setTop { method := m, pc := pc, locals := Ls, stack := _ :: rest, locked := none }) _
  jvm_step X.here [X.here.top, hx, hd, hm', hret, hn]
  first | (intro acts; rw [hl _ acts rfl rfl rfl]) | rw [hl _ _ rfl rfl rfl]
  exact Steps.refl _
theorem retJ (X : Stand p l e R s m args below meth c T locs cells slots) (hx : p.tables.exec = Jvm.exec) {pc : Nat} {Ls : Array Slot} {z : Int64} {rest : List Value} (hret : meth.sig.returnType = some .long) (hd : decode c.code pc = .ok (.lreturn, 1)) {fs : List Frame}
    (hl : ∀ (f : JFrame) (acts : List Action), f.method = m → f.locked = none → f.entered = [] → (doReturn e (T.setTop f) acts (some (.long z))).1 = T.setFrames fs) : Steps p.tables e below (T.setTop (mkF m pc Ls (.long z :: rest))) (T.setFrames fs) := by
  have hm' : T.vm.method? m = some meth := X.method'
  have hn : narrow .long (.long z) = .long z := rfl
  show Steps p.tables e below (T.setTop { method := m, pc := pc, locals := Ls, stack := _ :: rest, locked := none }) _
  jvm_step X.here [X.here.top, hx, hd, hm', hret, hn]
  first | (intro acts; rw [hl _ acts rfl rfl rfl]) | rw [hl _ _ rfl rfl rfl]
  exact Steps.refl _
end New
end Jvm.RoadKit
namespace Jvm.Pilot.@@N@@
open Jvm Jvm.ClassFile Sem Op Lib Jvm.Free Jvm.Stand Jvm.LawKit Jvm.RoadKit Bundle Jvm.Pilot.@@N@@.Jvm.D
theorem own_j1 {G : Prop} {A : Prop → Prop} (h1 : A G) (h2 : A G → G) : G := h2 h1
def own_u (v : Int64) : Nat := (v.toInt % 18446744073709551616).toNat
theorem own_uI (v : Int64) : (own_u v : Int) = v.toInt % 18446744073709551616 := by rw [own_u]; omega
theorem own_ult (v : Int64) : own_u v < 18446744073709551616 := by have := own_uI v; omega
theorem own_zero (w : Int64) : w = 0 ↔ own_u w = 0 := by
  have h := own_uI w
  have r := rng64 w
  constructor
  · intro q; subst q; rfl
  · intro q; apply Int64.toInt_inj.mp; show w.toInt = 0; omega
theorem own_sh (x : Int64) (q : Int32) (k : Nat) (hk : q.toBitVec.toNat % 64 = k) (h0 : 0 < k) : own_u ((x.toUInt64 >>> (q &&& 0x3f).toInt64.toUInt64).toInt64) = own_u x / 2 ^ k := by
  have e := c_lushr x q k hk h0
  have u := own_uI x
  have w := own_uI ((x.toUInt64 >>> (q &&& 0x3f).toInt64.toUInt64).toInt64)
  rw [e, ← u, ← Int.natCast_ediv] at w
  have lt : own_u x / 2 ^ k < 18446744073709551616 := Nat.lt_of_le_of_lt (Nat.div_le_self _ _) (own_ult x)
  generalize own_u x / 2 ^ k = d at *
  omega
theorem own_sh0 (x : Int64) (q : Int32) (hk : q.toBitVec.toNat % 64 = 0) : (x.toUInt64 >>> (q &&& 0x3f).toInt64.toUInt64).toInt64 = x := by
  have s := (sm64 _ _ hk).1
  have s2 : (q &&& 0x3f).toInt64 = 0 := Int64.toBitVec_inj.mp s
  rw [s2]; show (x.toUInt64 >>> (0 : UInt64)).toInt64 = x; rw [UInt64.shiftRight_zero]; rfl
theorem own_shk (x : Int64) (k : Nat) (h : k ≤ 9) : own_u ((x.toUInt64 >>> (((7 : Int32) * Int32.ofNat k) &&& 0x3f).toInt64.toUInt64).toInt64) = own_u x / 128 ^ k := by
  have : k = 0 ∨ k = 1 ∨ k = 2 ∨ k = 3 ∨ k = 4 ∨ k = 5 ∨ k = 6 ∨ k = 7 ∨ k = 8 ∨ k = 9 := by omega
  rcases this with h | h | h | h | h | h | h | h | h | h <;> subst h
  · rw [own_sh0 _ _ (by decide)]; simp
  · rw [own_sh x _ 7 (by decide) (by decide)]
  · rw [own_sh x _ 14 (by decide) (by decide)]
  · rw [own_sh x _ 21 (by decide) (by decide)]
  · rw [own_sh x _ 28 (by decide) (by decide)]
  · rw [own_sh x _ 35 (by decide) (by decide)]
  · rw [own_sh x _ 42 (by decide) (by decide)]
  · rw [own_sh x _ 49 (by decide) (by decide)]
  · rw [own_sh x _ 56 (by decide) (by decide)]
  · rw [own_sh x _ 63 (by decide) (by decide)]
theorem own_size : Int32.size = 4294967296 := rfl
def own_b1 (Y : Nat) : Int32 := Int32.ofInt (((Y % 128 : Nat) : Int) - 128)
def own_b0 (Y : Nat) : Int32 := Int32.ofInt (Y : Int)
theorem own_b1v (Y : Nat) : (own_b1 Y).toInt = ((Y % 128 : Nat) : Int) - 128 := by
  rw [own_b1, Int32.toInt_ofInt, own_size]; exact Int.bmod_eq_of_le (by omega) (by omega)
theorem own_b0v {Y : Nat} (h : Y < 128) : (own_b0 Y).toInt = (Y : Int) := by
  rw [own_b0, Int32.toInt_ofInt, own_size]; exact Int.bmod_eq_of_le (by omega) (by omega)
theorem own_w1 (x : Int64) : nar .byte ((((x &&& (127 : Int64)) ||| (128 : Int64)).toInt32).toInt8.toInt32) = own_b1 (own_u x) := by
  show (((((x &&& (127 : Int64)) ||| (128 : Int64)).toInt32).toInt8.toInt32).toInt8.toInt32) = own_b1 (own_u x)
  have u := own_uI x
  have a1 := c_maskL x 127 7 (by decide) (by decide)
  have a2 := c_orL' (x &&& (127 : Int64)) 128 7 (by decide) 128 (by decide) (by decide) (by omega) (by omega)
  have l128 : (128 : Int64).toInt = 128 := rfl
  have a3 := c_l2i ((x &&& (127 : Int64)) ||| (128 : Int64))
  have a4 := c_i2b (((x &&& (127 : Int64)) ||| (128 : Int64)).toInt32)
  have a5 := c_i2b ((((x &&& (127 : Int64)) ||| (128 : Int64)).toInt32).toInt8.toInt32)
  apply Int32.toInt_inj.mp
  rw [own_b1v]
  rw [l128] at a2
  omega
theorem own_w0 {x : Int64} (h : own_u x < 128) : nar .byte ((x.toInt32).toInt8.toInt32) = own_b0 (own_u x) := by
  show ((x.toInt32).toInt8.toInt32).toInt8.toInt32 = own_b0 (own_u x)
  have u := own_uI x
  have a3 := c_l2i x
  have a4 := c_i2b (x.toInt32)
  have a5 := c_i2b ((x.toInt32).toInt8.toInt32)
  apply Int32.toInt_inj.mp
  rw [own_b0v h]
  omega
theorem own_low {sh : Int64} {Y : Nat} (h : own_u sh = Y) : ((sh &&& (127 : Int64)).toInt32).toInt = ((Y % 128 : Nat) : Int) := by
  have u := own_uI sh
  have a1 := c_maskL sh 127 7 (by decide) (by decide)
  have a3 := c_l2i (sh &&& (127 : Int64))
  have r := rng32 ((sh &&& (127 : Int64)).toInt32)
  rw [h] at u
  omega
theorem own_r1 {low : Int32} {Y : Nat} (h : low.toInt = ((Y % 128 : Nat) : Int)) : (low ||| (128 : Int32)).toInt8.toInt32 = own_b1 Y := by
  have a2 := c_or' low 128 7 (by decide) 128 (by decide) (by decide) (by omega) (by omega)
  have l128 : (128 : Int32).toInt = 128 := rfl
  have a4 := c_i2b (low ||| (128 : Int32))
  apply Int32.toInt_inj.mp
  rw [own_b1v]
  rw [l128] at a2
  omega
theorem own_r0 {low : Int32} {Y : Nat} (hY : Y < 128) (h : low.toInt = ((Y % 128 : Nat) : Int)) : (low ||| (0 : Int32)).toInt8.toInt32 = own_b0 Y := by
  have a2 := c_or' low 0 7 (by decide) 128 (by decide) (by decide) (by omega) (by omega)
  have l0 : (0 : Int32).toInt = 0 := rfl
  have a4 := c_i2b (low ||| (0 : Int32))
  apply Int32.toInt_inj.mp
  rw [own_b0v hY]
  rw [l0] at a2
  omega
theorem own_m128 (x : Int64) : (x &&& (-128 : Int64)) = 0 ↔ own_u x < 128 := by
  have u := own_uI x
  have r := rng64 x
  have a1 := c_maskL x 127 7 (by decide) (by decide)
  have split : (x &&& (-128 : Int64)) ||| (x &&& (127 : Int64)) = x := by
    apply Int64.toBitVec_inj.mp
    rw [Int64.toBitVec_or, Int64.toBitVec_and, Int64.toBitVec_and, ← BitVec.and_or_distrib_left]
    have : (-128 : Int64).toBitVec ||| (127 : Int64).toBitVec = BitVec.allOnes 64 := by decide
    rw [this, BitVec.and_allOnes]
  constructor
  · intro h
    rw [h] at split
    have e : x &&& (127 : Int64) = x := by
      have z : (0 : Int64) ||| (x &&& (127 : Int64)) = x &&& (127 : Int64) := by simp
      rw [← z]; exact split
    rw [e] at a1
    omega
  · intro h
    have e : x &&& (127 : Int64) = x := Int64.toInt_inj.mp (by rw [a1]; omega)
    rw [← e, Int64.and_assoc]
    have : (127 : Int64) &&& (-128 : Int64) = 0 := by decide
    rw [this]; simp
theorem own_ofadd (a b : Nat) : Int32.ofNat a + Int32.ofNat b = Int32.ofNat (a + b) := (Int32.ofNat_add a b).symm
theorem own_of1 (a : Nat) : Int32.ofNat a + (1 : Int32) = Int32.ofNat (a + 1) := own_ofadd a 1
theorem own_ofv {a : Nat} (h : a < 2147483648) : (Int32.ofNat a).toInt = a := Int32.toInt_ofNat_of_lt h
theorem own_ofc {a : Nat} (h : a < 2147483648) : (Int32.ofNat a).toNatClampNeg = a := by
  rw [Int32.toNatClampNeg, own_ofv h]; rfl
theorem own_ofin {a : Nat} {sz : Nat} (hs : sz = 20) (h : a < 20) : ¬ (Int32.ofNat a < 0 ∨ sz ≤ (Int32.ofNat a).toNatClampNeg) := by
  rw [own_ofc (by omega), Int32.lt_iff_toInt_lt, own_ofv (by omega)]
  have : (0 : Int32).toInt = 0 := rfl
  omega
def own_Ar (Z : State) (h : Heap) (a : Addr) (g : Nat → Int32) : Prop := ∃ c : Cell, Arr Z h a c .byte ∧ c.slots.size = 20 ∧ ∀ j, j < 20 → c.slots[j]? = some (.int (g j))
theorem own_Arkeep {Z : State} {h h' : Heap} {a : Addr} {g : Nat → Int32} {ws : List Addr} (F : own_Ar Z h a g) (K : Keep h h' ws) (q : a ∉ ws) : own_Ar Z h' a g := by
  obtain ⟨c, A, r⟩ := F
  exact ⟨c, ⟨K.2.1 a c A.1 q, A.2⟩, r⟩
theorem own_Arwr {Z : State} {h h' : Heap} {a : Addr} {g : Nat → Int32} {c : Cell} {i : Nat} {b : Int32} (A : Arr Z h a c .byte) (S : c.slots.size = 20) (H : ∀ j, j < 20 → c.slots[j]? = some (.int (g j))) (W : Wr h h' a i (.int b)) (hi : i < 20) :
    own_Ar Z h' a (fun j => if j = i then b else g j) := by
  refine ⟨c.setSlot i (.int b), A.same W, by rw [sz_set]; exact S, fun j hj => ?_⟩
  show (c.slots.setIfInBounds i (.int b))[j]? = some (.int (if j = i then b else g j))
  by_cases q : j = i
  · subst q; rw [if_pos rfl, Array.getElem?_setIfInBounds_self_of_lt (by omega)]
  · rw [if_neg q, Array.getElem?_setIfInBounds_ne (Ne.symm q)]; exact H j hj
theorem own_n90 : nar .byte (90 : Int32) = 90 := by decide
theorem own_Arstart {Z : State} {h : Heap} {a : Addr} {k : ClassId} {d : Value} (V : Arv Z h a k .byte (20 : Int32) (List.replicate 20 (.int (nar .byte (90 : Int32)))) d) : own_Ar Z h a (fun _ => 90) := by
  obtain ⟨c, A, -, S, -, H, -⟩ := V
  have S' : c.slots.size = 20 := S
  refine ⟨c, A, S', fun j hj => ?_⟩
  rw [H j (by omega)]
  rw [List.getD_eq_getElem?_getD, List.getElem?_replicate, if_pos hj, own_n90]
  rfl
theorem own_uniq {U G mm : Nat} (g0 : 1 ≤ G) (g1 : U < 128 ^ G) (g2 : G = 1 ∨ 128 ^ (G - 1) ≤ U) (m1 : U / 128 ^ mm < 128) (m2 : mm = 0 ∨ 128 ≤ U / 128 ^ (mm - 1)) : G = mm + 1 := by
  have a1 : U < 128 ^ (mm + 1) := by
    have := (Nat.div_lt_iff_lt_mul (Nat.pow_pos (by decide : 0 < 128))).mp m1
    rw [Nat.pow_succ, Nat.mul_comm]; exact this
  have a2 : mm = 0 ∨ 128 ^ mm ≤ U := by
    rcases m2 with h | h
    · exact Or.inl h
    · cases mm with
      | zero => exact Or.inl rfl
      | succ k =>
        right
        have := (Nat.le_div_iff_mul_le (Nat.pow_pos (by decide : 0 < 128))).mp h
        rw [Nat.add_sub_cancel] at this
        rw [Nat.pow_succ, Nat.mul_comm]; exact this
  have b1 : mm < G := by
    rcases a2 with h | h
    · omega
    · exact (Nat.pow_lt_pow_iff_right (by decide : 1 < 128)).mp (Nat.lt_of_le_of_lt h g1)
  have b2 : G - 1 < mm + 1 := by
    rcases g2 with h | h
    · omega
    · exact (Nat.pow_lt_pow_iff_right (by decide : 1 < 128)).mp (Nat.lt_of_le_of_lt h a1)
  omega
def own_out (U aN mm : Nat) (j : Nat) : Int32 := if j < aN then 90 else if j < aN + mm then own_b1 (U / 128 ^ (j - aN)) else if j = aN + mm then own_b0 (U / 128 ^ mm) else 90
theorem own_dd (U a : Nat) : U / 128 / 128 ^ a = U / 128 ^ (a + 1) := by
  rw [Nat.div_div_eq_div_mul, Nat.pow_succ, Nat.mul_comm]
theorem own_at (p : Int32) : ∃ aN : Nat, ((1 : Int32) + (p &&& (7 : Int32))) = Int32.ofNat aN ∧ 1 ≤ aN ∧ aN ≤ 8 := by
  have h := c_and p 7 (by decide)
  have l7 : (7 : Int32).toInt = 7 := rfl
  have l1 : (1 : Int32).toInt = 1 := rfl
  have a := c_iadd 1 (p &&& (7 : Int32))
  have r := rng32 ((1 : Int32) + (p &&& (7 : Int32)))
  rw [l1] at a
  rw [l7] at h
  refine ⟨((1 : Int32) + (p &&& (7 : Int32))).toInt.toNat, ?_, by omega, by omega⟩
  apply Int32.toInt_inj.mp
  rw [own_ofv (by omega)]
  omega
theorem own_ksub {i a : Nat} (h : a ≤ i) (hi : i < 20) : Int32.ofNat i - Int32.ofNat a = Int32.ofNat (i - a) := by
  apply Int32.toInt_inj.mp
  have s := c_isub (Int32.ofNat i) (Int32.ofNat a)
  have r := rng32 (Int32.ofNat i - Int32.ofNat a)
  rw [own_ofv (by omega), own_ofv (by omega)] at s
  rw [own_ofv (by omega)]
  omega
theorem own_kneg {i a : Nat} (h : i < a) (ha : a ≤ 8) : Int32.ofNat i - Int32.ofNat a < 0 := by
  rw [Int32.lt_iff_toInt_lt]
  have s := c_isub (Int32.ofNat i) (Int32.ofNat a)
  have r := rng32 (Int32.ofNat i - Int32.ofNat a)
  rw [own_ofv (by omega), own_ofv (by omega)] at s
  have : (0 : Int32).toInt = 0 := rfl
  omega
theorem own_oflt {a b : Nat} (ha : a < 2147483648) (hb : b < 2147483648) : Int32.ofNat a < Int32.ofNat b ↔ a < b := by
  rw [Int32.lt_iff_toInt_lt, own_ofv ha, own_ofv hb]; omega
theorem own_ofn0 {a : Nat} (ha : a < 2147483648) : ¬ Int32.ofNat a < 0 := by
  rw [Int32.lt_iff_toInt_lt, own_ofv ha]
  have : (0 : Int32).toInt = 0 := rfl
  omega
theorem own_nm1 (mm : Nat) : Int32.ofNat (mm + 1) - (1 : Int32) = Int32.ofNat mm := by
  rw [← own_of1, Int32.add_sub_cancel]
theorem own_Arcongr {Z : State} {h : Heap} {a : Addr} {g g' : Nat → Int32} (F : own_Ar Z h a g) (q : ∀ j, j < 20 → g j = g' j) : own_Ar Z h a g' := by
  obtain ⟨c, A, S, H⟩ := F
  exact ⟨c, A, S, fun j hj => by rw [← q j hj]; exact H j hj⟩
theorem own_gstep (U ps mm j : Nat) (g : Nat → Int32) : (if ps + 1 ≤ j ∧ j < ps + 1 + mm then own_b1 (U / 128 / 128 ^ (j - (ps + 1))) else (if j = ps then own_b1 U else g j)) = if ps ≤ j ∧ j < ps + (mm + 1) then own_b1 (U / 128 ^ (j - ps)) else g j := by
  by_cases h1 : ps + 1 ≤ j ∧ j < ps + 1 + mm
  · rw [if_pos h1, if_pos (by omega), own_dd]
    have : j - (ps + 1) + 1 = j - ps := by omega
    rw [this]
  · rw [if_neg h1]
    by_cases h2 : j = ps
    · subst h2; rw [if_pos rfl, if_pos (by omega), Nat.sub_self, Nat.pow_zero, Nat.div_one]
    · rw [if_neg h2, if_neg (by omega)]
theorem own_gend (U aN mm j : Nat) : (if j = aN + mm then own_b0 (U / 128 ^ mm) else (if aN ≤ j ∧ j < aN + mm then own_b1 (U / 128 ^ (j - aN)) else 90)) = own_out U aN mm j := by
  rw [own_out]
  by_cases h1 : j < aN
  · rw [if_pos h1, if_neg (by omega), if_neg (by omega)]
  · rw [if_neg h1]
    by_cases h2 : j < aN + mm
    · rw [if_pos h2, if_neg (by omega), if_pos (by omega)]
    · rw [if_neg h2]
      by_cases h3 : j = aN + mm
      · rw [if_pos h3, if_pos h3]
      · rw [if_neg h3, if_neg h3, if_neg (by omega)]
theorem own_m2 {U mm : Nat} (hc : ¬ U < 128) (h : mm = 0 ∨ 128 ≤ U / 128 / 128 ^ (mm - 1)) : mm + 1 = 0 ∨ 128 ≤ U / 128 ^ (mm + 1 - 1) := by
  right
  rw [Nat.add_sub_cancel]
  rcases h with q | q
  · subst q; rw [Nat.pow_zero, Nat.div_one]; omega
  · cases mm with
    | zero => rw [Nat.pow_zero, Nat.div_one]; omega
    | succ k => rw [Nat.add_sub_cancel, own_dd] at q; exact q
theorem d1_0 : decode method_2_code 0 = .ok (.lload_n 0, 1) := by decide +kernel
theorem d1_1 : decode method_2_code 1 = .ok (.bipush 7, 2) := by decide +kernel
theorem d1_3 : decode method_2_code 3 = .ok (.lushr, 1) := by decide +kernel
theorem d1_4 : decode method_2_code 4 = .ok (.lconst 0, 1) := by decide +kernel
theorem d1_5 : decode method_2_code 5 = .ok (.lcmp, 1) := by decide +kernel
theorem d1_6 : decode method_2_code 6 = .ok (.ifCond .ne 5, 3) := by decide +kernel
theorem d1_9 : decode method_2_code 9 = .ok (.iconst 1, 1) := by decide +kernel
theorem d1_10 : decode method_2_code 10 = .ok (.ireturn, 1) := by decide +kernel
theorem d1_11 : decode method_2_code 11 = .ok (.lload_n 0, 1) := by decide +kernel
theorem d1_12 : decode method_2_code 12 = .ok (.bipush 14, 2) := by decide +kernel
theorem d1_14 : decode method_2_code 14 = .ok (.lushr, 1) := by decide +kernel
theorem d1_15 : decode method_2_code 15 = .ok (.lconst 0, 1) := by decide +kernel
theorem d1_16 : decode method_2_code 16 = .ok (.lcmp, 1) := by decide +kernel
theorem d1_17 : decode method_2_code 17 = .ok (.ifCond .ne 5, 3) := by decide +kernel
theorem d1_20 : decode method_2_code 20 = .ok (.iconst 2, 1) := by decide +kernel
theorem d1_21 : decode method_2_code 21 = .ok (.ireturn, 1) := by decide +kernel
theorem d1_22 : decode method_2_code 22 = .ok (.lload_n 0, 1) := by decide +kernel
theorem d1_23 : decode method_2_code 23 = .ok (.bipush 21, 2) := by decide +kernel
theorem d1_25 : decode method_2_code 25 = .ok (.lushr, 1) := by decide +kernel
theorem d1_26 : decode method_2_code 26 = .ok (.lconst 0, 1) := by decide +kernel
theorem d1_27 : decode method_2_code 27 = .ok (.lcmp, 1) := by decide +kernel
theorem d1_28 : decode method_2_code 28 = .ok (.ifCond .ne 5, 3) := by decide +kernel
theorem d1_31 : decode method_2_code 31 = .ok (.iconst 3, 1) := by decide +kernel
theorem d1_32 : decode method_2_code 32 = .ok (.ireturn, 1) := by decide +kernel
theorem d1_33 : decode method_2_code 33 = .ok (.lload_n 0, 1) := by decide +kernel
theorem d1_34 : decode method_2_code 34 = .ok (.bipush 28, 2) := by decide +kernel
theorem d1_36 : decode method_2_code 36 = .ok (.lushr, 1) := by decide +kernel
theorem d1_37 : decode method_2_code 37 = .ok (.lconst 0, 1) := by decide +kernel
theorem d1_38 : decode method_2_code 38 = .ok (.lcmp, 1) := by decide +kernel
theorem d1_39 : decode method_2_code 39 = .ok (.ifCond .ne 5, 3) := by decide +kernel
theorem d1_42 : decode method_2_code 42 = .ok (.iconst 4, 1) := by decide +kernel
theorem d1_43 : decode method_2_code 43 = .ok (.ireturn, 1) := by decide +kernel
theorem d1_44 : decode method_2_code 44 = .ok (.lload_n 0, 1) := by decide +kernel
theorem d1_45 : decode method_2_code 45 = .ok (.bipush 35, 2) := by decide +kernel
theorem d1_47 : decode method_2_code 47 = .ok (.lushr, 1) := by decide +kernel
theorem d1_48 : decode method_2_code 48 = .ok (.lconst 0, 1) := by decide +kernel
theorem d1_49 : decode method_2_code 49 = .ok (.lcmp, 1) := by decide +kernel
theorem d1_50 : decode method_2_code 50 = .ok (.ifCond .ne 5, 3) := by decide +kernel
theorem d1_53 : decode method_2_code 53 = .ok (.iconst 5, 1) := by decide +kernel
theorem d1_54 : decode method_2_code 54 = .ok (.ireturn, 1) := by decide +kernel
theorem d1_55 : decode method_2_code 55 = .ok (.lload_n 0, 1) := by decide +kernel
theorem d1_56 : decode method_2_code 56 = .ok (.bipush 42, 2) := by decide +kernel
theorem d1_58 : decode method_2_code 58 = .ok (.lushr, 1) := by decide +kernel
theorem d1_59 : decode method_2_code 59 = .ok (.lconst 0, 1) := by decide +kernel
theorem d1_60 : decode method_2_code 60 = .ok (.lcmp, 1) := by decide +kernel
theorem d1_61 : decode method_2_code 61 = .ok (.ifCond .ne 6, 3) := by decide +kernel
theorem d1_64 : decode method_2_code 64 = .ok (.bipush 6, 2) := by decide +kernel
theorem d1_66 : decode method_2_code 66 = .ok (.ireturn, 1) := by decide +kernel
theorem d1_67 : decode method_2_code 67 = .ok (.lload_n 0, 1) := by decide +kernel
theorem d1_68 : decode method_2_code 68 = .ok (.bipush 49, 2) := by decide +kernel
theorem d1_70 : decode method_2_code 70 = .ok (.lushr, 1) := by decide +kernel
theorem d1_71 : decode method_2_code 71 = .ok (.lconst 0, 1) := by decide +kernel
theorem d1_72 : decode method_2_code 72 = .ok (.lcmp, 1) := by decide +kernel
theorem d1_73 : decode method_2_code 73 = .ok (.ifCond .ne 6, 3) := by decide +kernel
theorem d1_76 : decode method_2_code 76 = .ok (.bipush 7, 2) := by decide +kernel
theorem d1_78 : decode method_2_code 78 = .ok (.ireturn, 1) := by decide +kernel
theorem d1_79 : decode method_2_code 79 = .ok (.lload_n 0, 1) := by decide +kernel
theorem d1_80 : decode method_2_code 80 = .ok (.bipush 56, 2) := by decide +kernel
theorem d1_82 : decode method_2_code 82 = .ok (.lushr, 1) := by decide +kernel
theorem d1_83 : decode method_2_code 83 = .ok (.lconst 0, 1) := by decide +kernel
theorem d1_84 : decode method_2_code 84 = .ok (.lcmp, 1) := by decide +kernel
theorem d1_85 : decode method_2_code 85 = .ok (.ifCond .ne 6, 3) := by decide +kernel
theorem d1_88 : decode method_2_code 88 = .ok (.bipush 8, 2) := by decide +kernel
theorem d1_90 : decode method_2_code 90 = .ok (.ireturn, 1) := by decide +kernel
theorem d1_91 : decode method_2_code 91 = .ok (.lload_n 0, 1) := by decide +kernel
theorem d1_92 : decode method_2_code 92 = .ok (.bipush 63, 2) := by decide +kernel
theorem d1_94 : decode method_2_code 94 = .ok (.lushr, 1) := by decide +kernel
theorem d1_95 : decode method_2_code 95 = .ok (.lconst 0, 1) := by decide +kernel
theorem d1_96 : decode method_2_code 96 = .ok (.lcmp, 1) := by decide +kernel
theorem d1_97 : decode method_2_code 97 = .ok (.ifCond .ne 6, 3) := by decide +kernel
theorem d1_100 : decode method_2_code 100 = .ok (.bipush 9, 2) := by decide +kernel
theorem d1_102 : decode method_2_code 102 = .ok (.ireturn, 1) := by decide +kernel
theorem d1_103 : decode method_2_code 103 = .ok (.bipush 10, 2) := by decide +kernel
theorem d1_105 : decode method_2_code 105 = .ok (.ireturn, 1) := by decide +kernel
theorem pn_0 : plainName "com/example/termite/termite/protocol/VarintsWriteUnsignedPinLaw" = true := by first | (simp [plainName, overriddenIn]; done) | decide +kernel
theorem ef_rmG (m : MethodId) (x0 : Int64) : entryFrame m #[(.long x0)] 2 = mkF m 0 #[.val (.long x0), .second] [] := by first | (simp [entryFrame, mkF, argsToLocals, Value.category]; done) | rfl
def QrmG (Z : State) (q1 : Int64) (h0 : Heap) (n0 : Nat) (v : Option Value) (h : Heap) (L : List Loc) : Prop := ∃ G : Nat, v = some (.int (Int32.ofNat G)) ∧ Fr n0 L ∧ h = h0 ∧ 1 ≤ G ∧ G ≤ 10 ∧ own_u q1 < 128 ^ G ∧ (G = 1 ∨ 128 ^ (G - 1) ≤ own_u q1)
set_option maxRecDepth 65536 in
set_option maxHeartbeats 40000000 in
theorem rmG (l : Launch) (Z : State) (a0 : Array Value) (hw : ∀ d ∈ tables_1, d.before a0 Z = true) (ws : List Jvm.Cond) (q1 : Int64) (h0 : Heap) (n0 : Nat) (Z0 : n0 ≤ h0.size) :
    MetFree l (⟨"com/example/termite/termite/protocol/VarintsWriteUnsignedPinLaw", "groups", "(J)I"⟩ : MethodName) (head1 (Jvm.Cond.code (⟨"com/example/termite/termite/protocol/VarintsWriteUnsignedPinLaw", "groups", "(J)I"⟩ : MethodName) method_2_code 2 (some .int) :: ws) ({ frames := 0, cells := 0, slots := 0, locals := 0 } : Room)) (fun a U => a = #[(.long q1)] ∧ Z.Warmed39 U.vm ∧ U.heap = h0) (fun _ _ _ _ _ => True) (fun _ U o U' => ∃ v L, o = .returned v ∧ QrmG Z q1 h0 n0 v U'.heap L ∧ FrameEnd U o U' L ({ frames := 0, cells := 0, slots := 0, locals := 0 } : Room).cells ({ frames := 0, cells := 0, slots := 0, locals := 0 } : Room).slots) := by
  refine MetFree.of_bodySF (plainFor_of_name pn_0) hisR ?_
  intro p e s m args below meth c s₁ Bd hml0 hP hK
  obtain ⟨rfl, hZ, hh⟩ := hP
  have hx := Bd.exec
  have hby := Bd.bytes
  have hml : c.maxLocals = 2 := hml0
  have hown : s.vm.findClass "com/example/termite/termite/protocol/VarintsWriteUnsignedPinLaw" = some m.cls := findClass_of_methodNamed Bd.named
  have hnm := (name_of_methodNamed Bd.named Bd.method).1
  have X0 : Stand p l e ({ frames := 0, cells := 0, slots := 0, locals := 0 } : Room) s m #[(.long q1)] below meth c s₁ [] 0 0 := Stand.of_body Bd
  have e0 : s₁.heap = h0 := by rw [← hh, Bd.state]; rfl
  have N0 := Fr.nil n0
  have pre0 : ∀ t_, Steps p.tables e below (s₁.setTop (mkF m 0 #[.val (.long q1), .second] [])) t_ → Steps p.tables e below (s₁.setTop (entryFrame m #[(.long q1)] 2)) t_ := fun t_ k_ => castTop (ef_rmG m q1) k_
  have pre101 : ∀ t_, Steps p.tables e below (s₁.setTop (mkF m 6 #[.val (.long q1), .second] [(.int (lcmpW ((q1.toUInt64 >>> ((7 : Int32) &&& 0x3f).toInt64.toUInt64).toInt64) (0 : Int64)))])) t_ → Steps p.tables e below (s₁.setTop (entryFrame m #[(.long q1)] 2)) t_ := fun t_ k_ => pre0 _ (by
    show Steps p.tables e below (s₁.setTop (mkF m 0 #[.val (.long q1), .second] [])) _
    refine XS.lloadN X0.here hx rfl (hb hby d1_0) rfl ?_
    show Steps p.tables e below (s₁.setTop (mkF m 1 #[.val (.long q1), .second] [(.long q1)])) _
    refine XS.bipush X0.here hx rfl (hb hby d1_1) ?_
    show Steps p.tables e below (s₁.setTop (mkF m 3 #[.val (.long q1), .second] [(.int (7 : Int32)), (.long q1)])) _
    refine XS.lushr X0.here hx rfl (hb hby d1_3) rfl ?_
    show Steps p.tables e below (s₁.setTop (mkF m 4 #[.val (.long q1), .second] [(.long ((q1.toUInt64 >>> ((7 : Int32) &&& 0x3f).toInt64.toUInt64).toInt64))])) _
    refine XS.lconst X0.here hx rfl (hb hby d1_4) ?_
    show Steps p.tables e below (s₁.setTop (mkF m 5 #[.val (.long q1), .second] [(.long (0 : Int64)), (.long ((q1.toUInt64 >>> ((7 : Int32) &&& 0x3f).toInt64.toUInt64).toInt64))])) _
    refine XS.lcmp X0.here hx rfl (hb hby d1_5) rfl ?_
    exact k_)
  by_cases hc0 : ((q1.toUInt64 >>> ((7 : Int32) &&& 0x3f).toInt64.toUInt64).toInt64) = (0 : Int64)
  · skip
    have hh : own_u q1 / 2 ^ 7 = 0 := by rw [← own_sh q1 (7 : Int32) 7 (by decide) (by decide)]; exact (own_zero _).mp hc0
    have hu : own_u q1 < 128 ^ 1 := (Nat.div_eq_zero_iff_lt (by decide)).mp hh
    have pre102 : ∀ t_, Steps p.tables e below (s₁.setTop (mkF m 10 #[.val (.long q1), .second] [(.int (1 : Int32))])) t_ → Steps p.tables e below (s₁.setTop (entryFrame m #[(.long q1)] 2)) t_ := fun t_ k_ => pre101 _ (by
      show Steps p.tables e below (s₁.setTop (mkF m 6 #[.val (.long q1), .second] [(.int (lcmpW ((q1.toUInt64 >>> ((7 : Int32) &&& 0x3f).toInt64.toUInt64).toInt64) (0 : Int64)))])) _
      refine XS.ifNo X0.here hx rfl (hb hby d1_6) rfl ((if0 _ _).trans (teq ((lw_eq _ _).mpr hc0)).2) ?_
      show Steps p.tables e below (s₁.setTop (mkF m 9 #[.val (.long q1), .second] [])) _
      refine XS.iconst X0.here hx rfl (hb hby d1_9) ?_
      exact k_)
    obtain ⟨fs, hr, hrun, hended, hW, hsame⟩ := X0.leave (v := some (.int (1 : Int32))) (fun h => by rw [Bd.returns] at h; cases h)
    refine ⟨_, _, pre102 _ ?_, hrun, hended, _, _, rfl, ?_, ⟨_, rfl⟩, hW, hsame.mono (by decide) (by decide)⟩
    · show Steps p.tables e below (s₁.setTop (mkF m 10 #[.val (.long q1), .second] [(.int (1 : Int32))])) _
      exact retI X0 hx Bd.returns (hb hby d1_10) hr
    · show QrmG Z q1 h0 n0 _ s₁.heap _
      rw [e0]
      exact ⟨1, rfl, N0, rfl, by decide, by decide, hu, Or.inl rfl⟩
  · skip
    have hh : ¬ own_u q1 / 2 ^ 7 = 0 := fun z => hc0 ((own_zero _).mpr (by rw [own_sh q1 (7 : Int32) 7 (by decide) (by decide)]; exact z))
    have hb0 : 128 ^ 1 ≤ own_u q1 := Nat.le_of_not_lt fun z => hh ((Nat.div_eq_zero_iff_lt (by decide)).mpr z)
    have pre103 : ∀ t_, Steps p.tables e below (s₁.setTop (mkF m 17 #[.val (.long q1), .second] [(.int (lcmpW ((q1.toUInt64 >>> ((14 : Int32) &&& 0x3f).toInt64.toUInt64).toInt64) (0 : Int64)))])) t_ → Steps p.tables e below (s₁.setTop (entryFrame m #[(.long q1)] 2)) t_ := fun t_ k_ => pre101 _ (by
      show Steps p.tables e below (s₁.setTop (mkF m 6 #[.val (.long q1), .second] [(.int (lcmpW ((q1.toUInt64 >>> ((7 : Int32) &&& 0x3f).toInt64.toUInt64).toInt64) (0 : Int64)))])) _
      refine XS.ifYes X0.here hx rfl (pc0 := 6) (pc' := 11) rfl (hb hby d1_6) rfl ((if0 _ _).trans (feq (mt (lw_eq _ _).mp hc0)).2) (by decide) (by decide) ?_
      show Steps p.tables e below (s₁.setTop (mkF m 11 #[.val (.long q1), .second] [])) _
      refine XS.lloadN X0.here hx rfl (hb hby d1_11) rfl ?_
      show Steps p.tables e below (s₁.setTop (mkF m 12 #[.val (.long q1), .second] [(.long q1)])) _
      refine XS.bipush X0.here hx rfl (hb hby d1_12) ?_
      show Steps p.tables e below (s₁.setTop (mkF m 14 #[.val (.long q1), .second] [(.int (14 : Int32)), (.long q1)])) _
      refine XS.lushr X0.here hx rfl (hb hby d1_14) rfl ?_
      show Steps p.tables e below (s₁.setTop (mkF m 15 #[.val (.long q1), .second] [(.long ((q1.toUInt64 >>> ((14 : Int32) &&& 0x3f).toInt64.toUInt64).toInt64))])) _
      refine XS.lconst X0.here hx rfl (hb hby d1_15) ?_
      show Steps p.tables e below (s₁.setTop (mkF m 16 #[.val (.long q1), .second] [(.long (0 : Int64)), (.long ((q1.toUInt64 >>> ((14 : Int32) &&& 0x3f).toInt64.toUInt64).toInt64))])) _
      refine XS.lcmp X0.here hx rfl (hb hby d1_16) rfl ?_
      exact k_)
    by_cases hc1 : ((q1.toUInt64 >>> ((14 : Int32) &&& 0x3f).toInt64.toUInt64).toInt64) = (0 : Int64)
    · skip
      have hh : own_u q1 / 2 ^ 14 = 0 := by rw [← own_sh q1 (14 : Int32) 14 (by decide) (by decide)]; exact (own_zero _).mp hc1
      have hu : own_u q1 < 128 ^ 2 := (Nat.div_eq_zero_iff_lt (by decide)).mp hh
      have pre104 : ∀ t_, Steps p.tables e below (s₁.setTop (mkF m 21 #[.val (.long q1), .second] [(.int (2 : Int32))])) t_ → Steps p.tables e below (s₁.setTop (entryFrame m #[(.long q1)] 2)) t_ := fun t_ k_ => pre103 _ (by
        show Steps p.tables e below (s₁.setTop (mkF m 17 #[.val (.long q1), .second] [(.int (lcmpW ((q1.toUInt64 >>> ((14 : Int32) &&& 0x3f).toInt64.toUInt64).toInt64) (0 : Int64)))])) _
        refine XS.ifNo X0.here hx rfl (hb hby d1_17) rfl ((if0 _ _).trans (teq ((lw_eq _ _).mpr hc1)).2) ?_
        show Steps p.tables e below (s₁.setTop (mkF m 20 #[.val (.long q1), .second] [])) _
        refine XS.iconst X0.here hx rfl (hb hby d1_20) ?_
        exact k_)
      obtain ⟨fs, hr, hrun, hended, hW, hsame⟩ := X0.leave (v := some (.int (2 : Int32))) (fun h => by rw [Bd.returns] at h; cases h)
      refine ⟨_, _, pre104 _ ?_, hrun, hended, _, _, rfl, ?_, ⟨_, rfl⟩, hW, hsame.mono (by decide) (by decide)⟩
      · show Steps p.tables e below (s₁.setTop (mkF m 21 #[.val (.long q1), .second] [(.int (2 : Int32))])) _
        exact retI X0 hx Bd.returns (hb hby d1_21) hr
      · show QrmG Z q1 h0 n0 _ s₁.heap _
        rw [e0]
        exact ⟨2, rfl, N0, rfl, by decide, by decide, hu, Or.inr hb0⟩
    · skip
      have hh : ¬ own_u q1 / 2 ^ 14 = 0 := fun z => hc1 ((own_zero _).mpr (by rw [own_sh q1 (14 : Int32) 14 (by decide) (by decide)]; exact z))
      have hb1 : 128 ^ 2 ≤ own_u q1 := Nat.le_of_not_lt fun z => hh ((Nat.div_eq_zero_iff_lt (by decide)).mpr z)
      have pre105 : ∀ t_, Steps p.tables e below (s₁.setTop (mkF m 28 #[.val (.long q1), .second] [(.int (lcmpW ((q1.toUInt64 >>> ((21 : Int32) &&& 0x3f).toInt64.toUInt64).toInt64) (0 : Int64)))])) t_ → Steps p.tables e below (s₁.setTop (entryFrame m #[(.long q1)] 2)) t_ := fun t_ k_ => pre103 _ (by
        show Steps p.tables e below (s₁.setTop (mkF m 17 #[.val (.long q1), .second] [(.int (lcmpW ((q1.toUInt64 >>> ((14 : Int32) &&& 0x3f).toInt64.toUInt64).toInt64) (0 : Int64)))])) _
        refine XS.ifYes X0.here hx rfl (pc0 := 17) (pc' := 22) rfl (hb hby d1_17) rfl ((if0 _ _).trans (feq (mt (lw_eq _ _).mp hc1)).2) (by decide) (by decide) ?_
        show Steps p.tables e below (s₁.setTop (mkF m 22 #[.val (.long q1), .second] [])) _
        refine XS.lloadN X0.here hx rfl (hb hby d1_22) rfl ?_
        show Steps p.tables e below (s₁.setTop (mkF m 23 #[.val (.long q1), .second] [(.long q1)])) _
        refine XS.bipush X0.here hx rfl (hb hby d1_23) ?_
        show Steps p.tables e below (s₁.setTop (mkF m 25 #[.val (.long q1), .second] [(.int (21 : Int32)), (.long q1)])) _
        refine XS.lushr X0.here hx rfl (hb hby d1_25) rfl ?_
        show Steps p.tables e below (s₁.setTop (mkF m 26 #[.val (.long q1), .second] [(.long ((q1.toUInt64 >>> ((21 : Int32) &&& 0x3f).toInt64.toUInt64).toInt64))])) _
        refine XS.lconst X0.here hx rfl (hb hby d1_26) ?_
        show Steps p.tables e below (s₁.setTop (mkF m 27 #[.val (.long q1), .second] [(.long (0 : Int64)), (.long ((q1.toUInt64 >>> ((21 : Int32) &&& 0x3f).toInt64.toUInt64).toInt64))])) _
        refine XS.lcmp X0.here hx rfl (hb hby d1_27) rfl ?_
        exact k_)
      by_cases hc2 : ((q1.toUInt64 >>> ((21 : Int32) &&& 0x3f).toInt64.toUInt64).toInt64) = (0 : Int64)
      · skip
        have hh : own_u q1 / 2 ^ 21 = 0 := by rw [← own_sh q1 (21 : Int32) 21 (by decide) (by decide)]; exact (own_zero _).mp hc2
        have hu : own_u q1 < 128 ^ 3 := (Nat.div_eq_zero_iff_lt (by decide)).mp hh
        have pre106 : ∀ t_, Steps p.tables e below (s₁.setTop (mkF m 32 #[.val (.long q1), .second] [(.int (3 : Int32))])) t_ → Steps p.tables e below (s₁.setTop (entryFrame m #[(.long q1)] 2)) t_ := fun t_ k_ => pre105 _ (by
          show Steps p.tables e below (s₁.setTop (mkF m 28 #[.val (.long q1), .second] [(.int (lcmpW ((q1.toUInt64 >>> ((21 : Int32) &&& 0x3f).toInt64.toUInt64).toInt64) (0 : Int64)))])) _
          refine XS.ifNo X0.here hx rfl (hb hby d1_28) rfl ((if0 _ _).trans (teq ((lw_eq _ _).mpr hc2)).2) ?_
          show Steps p.tables e below (s₁.setTop (mkF m 31 #[.val (.long q1), .second] [])) _
          refine XS.iconst X0.here hx rfl (hb hby d1_31) ?_
          exact k_)
        obtain ⟨fs, hr, hrun, hended, hW, hsame⟩ := X0.leave (v := some (.int (3 : Int32))) (fun h => by rw [Bd.returns] at h; cases h)
        refine ⟨_, _, pre106 _ ?_, hrun, hended, _, _, rfl, ?_, ⟨_, rfl⟩, hW, hsame.mono (by decide) (by decide)⟩
        · show Steps p.tables e below (s₁.setTop (mkF m 32 #[.val (.long q1), .second] [(.int (3 : Int32))])) _
          exact retI X0 hx Bd.returns (hb hby d1_32) hr
        · show QrmG Z q1 h0 n0 _ s₁.heap _
          rw [e0]
          exact ⟨3, rfl, N0, rfl, by decide, by decide, hu, Or.inr hb1⟩
      · skip
        have hh : ¬ own_u q1 / 2 ^ 21 = 0 := fun z => hc2 ((own_zero _).mpr (by rw [own_sh q1 (21 : Int32) 21 (by decide) (by decide)]; exact z))
        have hb2 : 128 ^ 3 ≤ own_u q1 := Nat.le_of_not_lt fun z => hh ((Nat.div_eq_zero_iff_lt (by decide)).mpr z)
        have pre107 : ∀ t_, Steps p.tables e below (s₁.setTop (mkF m 39 #[.val (.long q1), .second] [(.int (lcmpW ((q1.toUInt64 >>> ((28 : Int32) &&& 0x3f).toInt64.toUInt64).toInt64) (0 : Int64)))])) t_ → Steps p.tables e below (s₁.setTop (entryFrame m #[(.long q1)] 2)) t_ := fun t_ k_ => pre105 _ (by
          show Steps p.tables e below (s₁.setTop (mkF m 28 #[.val (.long q1), .second] [(.int (lcmpW ((q1.toUInt64 >>> ((21 : Int32) &&& 0x3f).toInt64.toUInt64).toInt64) (0 : Int64)))])) _
          refine XS.ifYes X0.here hx rfl (pc0 := 28) (pc' := 33) rfl (hb hby d1_28) rfl ((if0 _ _).trans (feq (mt (lw_eq _ _).mp hc2)).2) (by decide) (by decide) ?_
          show Steps p.tables e below (s₁.setTop (mkF m 33 #[.val (.long q1), .second] [])) _
          refine XS.lloadN X0.here hx rfl (hb hby d1_33) rfl ?_
          show Steps p.tables e below (s₁.setTop (mkF m 34 #[.val (.long q1), .second] [(.long q1)])) _
          refine XS.bipush X0.here hx rfl (hb hby d1_34) ?_
          show Steps p.tables e below (s₁.setTop (mkF m 36 #[.val (.long q1), .second] [(.int (28 : Int32)), (.long q1)])) _
          refine XS.lushr X0.here hx rfl (hb hby d1_36) rfl ?_
          show Steps p.tables e below (s₁.setTop (mkF m 37 #[.val (.long q1), .second] [(.long ((q1.toUInt64 >>> ((28 : Int32) &&& 0x3f).toInt64.toUInt64).toInt64))])) _
          refine XS.lconst X0.here hx rfl (hb hby d1_37) ?_
          show Steps p.tables e below (s₁.setTop (mkF m 38 #[.val (.long q1), .second] [(.long (0 : Int64)), (.long ((q1.toUInt64 >>> ((28 : Int32) &&& 0x3f).toInt64.toUInt64).toInt64))])) _
          refine XS.lcmp X0.here hx rfl (hb hby d1_38) rfl ?_
          exact k_)
        by_cases hc3 : ((q1.toUInt64 >>> ((28 : Int32) &&& 0x3f).toInt64.toUInt64).toInt64) = (0 : Int64)
        · skip
          have hh : own_u q1 / 2 ^ 28 = 0 := by rw [← own_sh q1 (28 : Int32) 28 (by decide) (by decide)]; exact (own_zero _).mp hc3
          have hu : own_u q1 < 128 ^ 4 := (Nat.div_eq_zero_iff_lt (by decide)).mp hh
          have pre108 : ∀ t_, Steps p.tables e below (s₁.setTop (mkF m 43 #[.val (.long q1), .second] [(.int (4 : Int32))])) t_ → Steps p.tables e below (s₁.setTop (entryFrame m #[(.long q1)] 2)) t_ := fun t_ k_ => pre107 _ (by
            show Steps p.tables e below (s₁.setTop (mkF m 39 #[.val (.long q1), .second] [(.int (lcmpW ((q1.toUInt64 >>> ((28 : Int32) &&& 0x3f).toInt64.toUInt64).toInt64) (0 : Int64)))])) _
            refine XS.ifNo X0.here hx rfl (hb hby d1_39) rfl ((if0 _ _).trans (teq ((lw_eq _ _).mpr hc3)).2) ?_
            show Steps p.tables e below (s₁.setTop (mkF m 42 #[.val (.long q1), .second] [])) _
            refine XS.iconst X0.here hx rfl (hb hby d1_42) ?_
            exact k_)
          obtain ⟨fs, hr, hrun, hended, hW, hsame⟩ := X0.leave (v := some (.int (4 : Int32))) (fun h => by rw [Bd.returns] at h; cases h)
          refine ⟨_, _, pre108 _ ?_, hrun, hended, _, _, rfl, ?_, ⟨_, rfl⟩, hW, hsame.mono (by decide) (by decide)⟩
          · show Steps p.tables e below (s₁.setTop (mkF m 43 #[.val (.long q1), .second] [(.int (4 : Int32))])) _
            exact retI X0 hx Bd.returns (hb hby d1_43) hr
          · show QrmG Z q1 h0 n0 _ s₁.heap _
            rw [e0]
            exact ⟨4, rfl, N0, rfl, by decide, by decide, hu, Or.inr hb2⟩
        · skip
          have hh : ¬ own_u q1 / 2 ^ 28 = 0 := fun z => hc3 ((own_zero _).mpr (by rw [own_sh q1 (28 : Int32) 28 (by decide) (by decide)]; exact z))
          have hb3 : 128 ^ 4 ≤ own_u q1 := Nat.le_of_not_lt fun z => hh ((Nat.div_eq_zero_iff_lt (by decide)).mpr z)
          have pre109 : ∀ t_, Steps p.tables e below (s₁.setTop (mkF m 50 #[.val (.long q1), .second] [(.int (lcmpW ((q1.toUInt64 >>> ((35 : Int32) &&& 0x3f).toInt64.toUInt64).toInt64) (0 : Int64)))])) t_ → Steps p.tables e below (s₁.setTop (entryFrame m #[(.long q1)] 2)) t_ := fun t_ k_ => pre107 _ (by
            show Steps p.tables e below (s₁.setTop (mkF m 39 #[.val (.long q1), .second] [(.int (lcmpW ((q1.toUInt64 >>> ((28 : Int32) &&& 0x3f).toInt64.toUInt64).toInt64) (0 : Int64)))])) _
            refine XS.ifYes X0.here hx rfl (pc0 := 39) (pc' := 44) rfl (hb hby d1_39) rfl ((if0 _ _).trans (feq (mt (lw_eq _ _).mp hc3)).2) (by decide) (by decide) ?_
            show Steps p.tables e below (s₁.setTop (mkF m 44 #[.val (.long q1), .second] [])) _
            refine XS.lloadN X0.here hx rfl (hb hby d1_44) rfl ?_
            show Steps p.tables e below (s₁.setTop (mkF m 45 #[.val (.long q1), .second] [(.long q1)])) _
            refine XS.bipush X0.here hx rfl (hb hby d1_45) ?_
            show Steps p.tables e below (s₁.setTop (mkF m 47 #[.val (.long q1), .second] [(.int (35 : Int32)), (.long q1)])) _
            refine XS.lushr X0.here hx rfl (hb hby d1_47) rfl ?_
            show Steps p.tables e below (s₁.setTop (mkF m 48 #[.val (.long q1), .second] [(.long ((q1.toUInt64 >>> ((35 : Int32) &&& 0x3f).toInt64.toUInt64).toInt64))])) _
            refine XS.lconst X0.here hx rfl (hb hby d1_48) ?_
            show Steps p.tables e below (s₁.setTop (mkF m 49 #[.val (.long q1), .second] [(.long (0 : Int64)), (.long ((q1.toUInt64 >>> ((35 : Int32) &&& 0x3f).toInt64.toUInt64).toInt64))])) _
            refine XS.lcmp X0.here hx rfl (hb hby d1_49) rfl ?_
            exact k_)
          by_cases hc4 : ((q1.toUInt64 >>> ((35 : Int32) &&& 0x3f).toInt64.toUInt64).toInt64) = (0 : Int64)
          · skip
            have hh : own_u q1 / 2 ^ 35 = 0 := by rw [← own_sh q1 (35 : Int32) 35 (by decide) (by decide)]; exact (own_zero _).mp hc4
            have hu : own_u q1 < 128 ^ 5 := (Nat.div_eq_zero_iff_lt (by decide)).mp hh
            have pre110 : ∀ t_, Steps p.tables e below (s₁.setTop (mkF m 54 #[.val (.long q1), .second] [(.int (5 : Int32))])) t_ → Steps p.tables e below (s₁.setTop (entryFrame m #[(.long q1)] 2)) t_ := fun t_ k_ => pre109 _ (by
              show Steps p.tables e below (s₁.setTop (mkF m 50 #[.val (.long q1), .second] [(.int (lcmpW ((q1.toUInt64 >>> ((35 : Int32) &&& 0x3f).toInt64.toUInt64).toInt64) (0 : Int64)))])) _
              refine XS.ifNo X0.here hx rfl (hb hby d1_50) rfl ((if0 _ _).trans (teq ((lw_eq _ _).mpr hc4)).2) ?_
              show Steps p.tables e below (s₁.setTop (mkF m 53 #[.val (.long q1), .second] [])) _
              refine XS.iconst X0.here hx rfl (hb hby d1_53) ?_
              exact k_)
            obtain ⟨fs, hr, hrun, hended, hW, hsame⟩ := X0.leave (v := some (.int (5 : Int32))) (fun h => by rw [Bd.returns] at h; cases h)
            refine ⟨_, _, pre110 _ ?_, hrun, hended, _, _, rfl, ?_, ⟨_, rfl⟩, hW, hsame.mono (by decide) (by decide)⟩
            · show Steps p.tables e below (s₁.setTop (mkF m 54 #[.val (.long q1), .second] [(.int (5 : Int32))])) _
              exact retI X0 hx Bd.returns (hb hby d1_54) hr
            · show QrmG Z q1 h0 n0 _ s₁.heap _
              rw [e0]
              exact ⟨5, rfl, N0, rfl, by decide, by decide, hu, Or.inr hb3⟩
          · skip
            have hh : ¬ own_u q1 / 2 ^ 35 = 0 := fun z => hc4 ((own_zero _).mpr (by rw [own_sh q1 (35 : Int32) 35 (by decide) (by decide)]; exact z))
            have hb4 : 128 ^ 5 ≤ own_u q1 := Nat.le_of_not_lt fun z => hh ((Nat.div_eq_zero_iff_lt (by decide)).mpr z)
            have pre111 : ∀ t_, Steps p.tables e below (s₁.setTop (mkF m 61 #[.val (.long q1), .second] [(.int (lcmpW ((q1.toUInt64 >>> ((42 : Int32) &&& 0x3f).toInt64.toUInt64).toInt64) (0 : Int64)))])) t_ → Steps p.tables e below (s₁.setTop (entryFrame m #[(.long q1)] 2)) t_ := fun t_ k_ => pre109 _ (by
              show Steps p.tables e below (s₁.setTop (mkF m 50 #[.val (.long q1), .second] [(.int (lcmpW ((q1.toUInt64 >>> ((35 : Int32) &&& 0x3f).toInt64.toUInt64).toInt64) (0 : Int64)))])) _
              refine XS.ifYes X0.here hx rfl (pc0 := 50) (pc' := 55) rfl (hb hby d1_50) rfl ((if0 _ _).trans (feq (mt (lw_eq _ _).mp hc4)).2) (by decide) (by decide) ?_
              show Steps p.tables e below (s₁.setTop (mkF m 55 #[.val (.long q1), .second] [])) _
              refine XS.lloadN X0.here hx rfl (hb hby d1_55) rfl ?_
              show Steps p.tables e below (s₁.setTop (mkF m 56 #[.val (.long q1), .second] [(.long q1)])) _
              refine XS.bipush X0.here hx rfl (hb hby d1_56) ?_
              show Steps p.tables e below (s₁.setTop (mkF m 58 #[.val (.long q1), .second] [(.int (42 : Int32)), (.long q1)])) _
              refine XS.lushr X0.here hx rfl (hb hby d1_58) rfl ?_
              show Steps p.tables e below (s₁.setTop (mkF m 59 #[.val (.long q1), .second] [(.long ((q1.toUInt64 >>> ((42 : Int32) &&& 0x3f).toInt64.toUInt64).toInt64))])) _
              refine XS.lconst X0.here hx rfl (hb hby d1_59) ?_
              show Steps p.tables e below (s₁.setTop (mkF m 60 #[.val (.long q1), .second] [(.long (0 : Int64)), (.long ((q1.toUInt64 >>> ((42 : Int32) &&& 0x3f).toInt64.toUInt64).toInt64))])) _
              refine XS.lcmp X0.here hx rfl (hb hby d1_60) rfl ?_
              exact k_)
            by_cases hc5 : ((q1.toUInt64 >>> ((42 : Int32) &&& 0x3f).toInt64.toUInt64).toInt64) = (0 : Int64)
            · skip
              have hh : own_u q1 / 2 ^ 42 = 0 := by rw [← own_sh q1 (42 : Int32) 42 (by decide) (by decide)]; exact (own_zero _).mp hc5
              have hu : own_u q1 < 128 ^ 6 := (Nat.div_eq_zero_iff_lt (by decide)).mp hh
              have pre112 : ∀ t_, Steps p.tables e below (s₁.setTop (mkF m 66 #[.val (.long q1), .second] [(.int (6 : Int32))])) t_ → Steps p.tables e below (s₁.setTop (entryFrame m #[(.long q1)] 2)) t_ := fun t_ k_ => pre111 _ (by
                show Steps p.tables e below (s₁.setTop (mkF m 61 #[.val (.long q1), .second] [(.int (lcmpW ((q1.toUInt64 >>> ((42 : Int32) &&& 0x3f).toInt64.toUInt64).toInt64) (0 : Int64)))])) _
                refine XS.ifNo X0.here hx rfl (hb hby d1_61) rfl ((if0 _ _).trans (teq ((lw_eq _ _).mpr hc5)).2) ?_
                show Steps p.tables e below (s₁.setTop (mkF m 64 #[.val (.long q1), .second] [])) _
                refine XS.bipush X0.here hx rfl (hb hby d1_64) ?_
                exact k_)
              obtain ⟨fs, hr, hrun, hended, hW, hsame⟩ := X0.leave (v := some (.int (6 : Int32))) (fun h => by rw [Bd.returns] at h; cases h)
              refine ⟨_, _, pre112 _ ?_, hrun, hended, _, _, rfl, ?_, ⟨_, rfl⟩, hW, hsame.mono (by decide) (by decide)⟩
              · show Steps p.tables e below (s₁.setTop (mkF m 66 #[.val (.long q1), .second] [(.int (6 : Int32))])) _
                exact retI X0 hx Bd.returns (hb hby d1_66) hr
              · show QrmG Z q1 h0 n0 _ s₁.heap _
                rw [e0]
                exact ⟨6, rfl, N0, rfl, by decide, by decide, hu, Or.inr hb4⟩
            · skip
              have hh : ¬ own_u q1 / 2 ^ 42 = 0 := fun z => hc5 ((own_zero _).mpr (by rw [own_sh q1 (42 : Int32) 42 (by decide) (by decide)]; exact z))
              have hb5 : 128 ^ 6 ≤ own_u q1 := Nat.le_of_not_lt fun z => hh ((Nat.div_eq_zero_iff_lt (by decide)).mpr z)
              have pre113 : ∀ t_, Steps p.tables e below (s₁.setTop (mkF m 73 #[.val (.long q1), .second] [(.int (lcmpW ((q1.toUInt64 >>> ((49 : Int32) &&& 0x3f).toInt64.toUInt64).toInt64) (0 : Int64)))])) t_ → Steps p.tables e below (s₁.setTop (entryFrame m #[(.long q1)] 2)) t_ := fun t_ k_ => pre111 _ (by
                show Steps p.tables e below (s₁.setTop (mkF m 61 #[.val (.long q1), .second] [(.int (lcmpW ((q1.toUInt64 >>> ((42 : Int32) &&& 0x3f).toInt64.toUInt64).toInt64) (0 : Int64)))])) _
                refine XS.ifYes X0.here hx rfl (pc0 := 61) (pc' := 67) rfl (hb hby d1_61) rfl ((if0 _ _).trans (feq (mt (lw_eq _ _).mp hc5)).2) (by decide) (by decide) ?_
                show Steps p.tables e below (s₁.setTop (mkF m 67 #[.val (.long q1), .second] [])) _
                refine XS.lloadN X0.here hx rfl (hb hby d1_67) rfl ?_
                show Steps p.tables e below (s₁.setTop (mkF m 68 #[.val (.long q1), .second] [(.long q1)])) _
                refine XS.bipush X0.here hx rfl (hb hby d1_68) ?_
                show Steps p.tables e below (s₁.setTop (mkF m 70 #[.val (.long q1), .second] [(.int (49 : Int32)), (.long q1)])) _
                refine XS.lushr X0.here hx rfl (hb hby d1_70) rfl ?_
                show Steps p.tables e below (s₁.setTop (mkF m 71 #[.val (.long q1), .second] [(.long ((q1.toUInt64 >>> ((49 : Int32) &&& 0x3f).toInt64.toUInt64).toInt64))])) _
                refine XS.lconst X0.here hx rfl (hb hby d1_71) ?_
                show Steps p.tables e below (s₁.setTop (mkF m 72 #[.val (.long q1), .second] [(.long (0 : Int64)), (.long ((q1.toUInt64 >>> ((49 : Int32) &&& 0x3f).toInt64.toUInt64).toInt64))])) _
                refine XS.lcmp X0.here hx rfl (hb hby d1_72) rfl ?_
                exact k_)
              by_cases hc6 : ((q1.toUInt64 >>> ((49 : Int32) &&& 0x3f).toInt64.toUInt64).toInt64) = (0 : Int64)
              · skip
                have hh : own_u q1 / 2 ^ 49 = 0 := by rw [← own_sh q1 (49 : Int32) 49 (by decide) (by decide)]; exact (own_zero _).mp hc6
                have hu : own_u q1 < 128 ^ 7 := (Nat.div_eq_zero_iff_lt (by decide)).mp hh
                have pre114 : ∀ t_, Steps p.tables e below (s₁.setTop (mkF m 78 #[.val (.long q1), .second] [(.int (7 : Int32))])) t_ → Steps p.tables e below (s₁.setTop (entryFrame m #[(.long q1)] 2)) t_ := fun t_ k_ => pre113 _ (by
                  show Steps p.tables e below (s₁.setTop (mkF m 73 #[.val (.long q1), .second] [(.int (lcmpW ((q1.toUInt64 >>> ((49 : Int32) &&& 0x3f).toInt64.toUInt64).toInt64) (0 : Int64)))])) _
                  refine XS.ifNo X0.here hx rfl (hb hby d1_73) rfl ((if0 _ _).trans (teq ((lw_eq _ _).mpr hc6)).2) ?_
                  show Steps p.tables e below (s₁.setTop (mkF m 76 #[.val (.long q1), .second] [])) _
                  refine XS.bipush X0.here hx rfl (hb hby d1_76) ?_
                  exact k_)
                obtain ⟨fs, hr, hrun, hended, hW, hsame⟩ := X0.leave (v := some (.int (7 : Int32))) (fun h => by rw [Bd.returns] at h; cases h)
                refine ⟨_, _, pre114 _ ?_, hrun, hended, _, _, rfl, ?_, ⟨_, rfl⟩, hW, hsame.mono (by decide) (by decide)⟩
                · show Steps p.tables e below (s₁.setTop (mkF m 78 #[.val (.long q1), .second] [(.int (7 : Int32))])) _
                  exact retI X0 hx Bd.returns (hb hby d1_78) hr
                · show QrmG Z q1 h0 n0 _ s₁.heap _
                  rw [e0]
                  exact ⟨7, rfl, N0, rfl, by decide, by decide, hu, Or.inr hb5⟩
              · skip
                have hh : ¬ own_u q1 / 2 ^ 49 = 0 := fun z => hc6 ((own_zero _).mpr (by rw [own_sh q1 (49 : Int32) 49 (by decide) (by decide)]; exact z))
                have hb6 : 128 ^ 7 ≤ own_u q1 := Nat.le_of_not_lt fun z => hh ((Nat.div_eq_zero_iff_lt (by decide)).mpr z)
                have pre115 : ∀ t_, Steps p.tables e below (s₁.setTop (mkF m 85 #[.val (.long q1), .second] [(.int (lcmpW ((q1.toUInt64 >>> ((56 : Int32) &&& 0x3f).toInt64.toUInt64).toInt64) (0 : Int64)))])) t_ → Steps p.tables e below (s₁.setTop (entryFrame m #[(.long q1)] 2)) t_ := fun t_ k_ => pre113 _ (by
                  show Steps p.tables e below (s₁.setTop (mkF m 73 #[.val (.long q1), .second] [(.int (lcmpW ((q1.toUInt64 >>> ((49 : Int32) &&& 0x3f).toInt64.toUInt64).toInt64) (0 : Int64)))])) _
                  refine XS.ifYes X0.here hx rfl (pc0 := 73) (pc' := 79) rfl (hb hby d1_73) rfl ((if0 _ _).trans (feq (mt (lw_eq _ _).mp hc6)).2) (by decide) (by decide) ?_
                  show Steps p.tables e below (s₁.setTop (mkF m 79 #[.val (.long q1), .second] [])) _
                  refine XS.lloadN X0.here hx rfl (hb hby d1_79) rfl ?_
                  show Steps p.tables e below (s₁.setTop (mkF m 80 #[.val (.long q1), .second] [(.long q1)])) _
                  refine XS.bipush X0.here hx rfl (hb hby d1_80) ?_
                  show Steps p.tables e below (s₁.setTop (mkF m 82 #[.val (.long q1), .second] [(.int (56 : Int32)), (.long q1)])) _
                  refine XS.lushr X0.here hx rfl (hb hby d1_82) rfl ?_
                  show Steps p.tables e below (s₁.setTop (mkF m 83 #[.val (.long q1), .second] [(.long ((q1.toUInt64 >>> ((56 : Int32) &&& 0x3f).toInt64.toUInt64).toInt64))])) _
                  refine XS.lconst X0.here hx rfl (hb hby d1_83) ?_
                  show Steps p.tables e below (s₁.setTop (mkF m 84 #[.val (.long q1), .second] [(.long (0 : Int64)), (.long ((q1.toUInt64 >>> ((56 : Int32) &&& 0x3f).toInt64.toUInt64).toInt64))])) _
                  refine XS.lcmp X0.here hx rfl (hb hby d1_84) rfl ?_
                  exact k_)
                by_cases hc7 : ((q1.toUInt64 >>> ((56 : Int32) &&& 0x3f).toInt64.toUInt64).toInt64) = (0 : Int64)
                · skip
                  have hh : own_u q1 / 2 ^ 56 = 0 := by rw [← own_sh q1 (56 : Int32) 56 (by decide) (by decide)]; exact (own_zero _).mp hc7
                  have hu : own_u q1 < 128 ^ 8 := (Nat.div_eq_zero_iff_lt (by decide)).mp hh
                  have pre116 : ∀ t_, Steps p.tables e below (s₁.setTop (mkF m 90 #[.val (.long q1), .second] [(.int (8 : Int32))])) t_ → Steps p.tables e below (s₁.setTop (entryFrame m #[(.long q1)] 2)) t_ := fun t_ k_ => pre115 _ (by
                    show Steps p.tables e below (s₁.setTop (mkF m 85 #[.val (.long q1), .second] [(.int (lcmpW ((q1.toUInt64 >>> ((56 : Int32) &&& 0x3f).toInt64.toUInt64).toInt64) (0 : Int64)))])) _
                    refine XS.ifNo X0.here hx rfl (hb hby d1_85) rfl ((if0 _ _).trans (teq ((lw_eq _ _).mpr hc7)).2) ?_
                    show Steps p.tables e below (s₁.setTop (mkF m 88 #[.val (.long q1), .second] [])) _
                    refine XS.bipush X0.here hx rfl (hb hby d1_88) ?_
                    exact k_)
                  obtain ⟨fs, hr, hrun, hended, hW, hsame⟩ := X0.leave (v := some (.int (8 : Int32))) (fun h => by rw [Bd.returns] at h; cases h)
                  refine ⟨_, _, pre116 _ ?_, hrun, hended, _, _, rfl, ?_, ⟨_, rfl⟩, hW, hsame.mono (by decide) (by decide)⟩
                  · show Steps p.tables e below (s₁.setTop (mkF m 90 #[.val (.long q1), .second] [(.int (8 : Int32))])) _
                    exact retI X0 hx Bd.returns (hb hby d1_90) hr
                  · show QrmG Z q1 h0 n0 _ s₁.heap _
                    rw [e0]
                    exact ⟨8, rfl, N0, rfl, by decide, by decide, hu, Or.inr hb6⟩
                · skip
                  have hh : ¬ own_u q1 / 2 ^ 56 = 0 := fun z => hc7 ((own_zero _).mpr (by rw [own_sh q1 (56 : Int32) 56 (by decide) (by decide)]; exact z))
                  have hb7 : 128 ^ 8 ≤ own_u q1 := Nat.le_of_not_lt fun z => hh ((Nat.div_eq_zero_iff_lt (by decide)).mpr z)
                  have pre117 : ∀ t_, Steps p.tables e below (s₁.setTop (mkF m 97 #[.val (.long q1), .second] [(.int (lcmpW ((q1.toUInt64 >>> ((63 : Int32) &&& 0x3f).toInt64.toUInt64).toInt64) (0 : Int64)))])) t_ → Steps p.tables e below (s₁.setTop (entryFrame m #[(.long q1)] 2)) t_ := fun t_ k_ => pre115 _ (by
                    show Steps p.tables e below (s₁.setTop (mkF m 85 #[.val (.long q1), .second] [(.int (lcmpW ((q1.toUInt64 >>> ((56 : Int32) &&& 0x3f).toInt64.toUInt64).toInt64) (0 : Int64)))])) _
                    refine XS.ifYes X0.here hx rfl (pc0 := 85) (pc' := 91) rfl (hb hby d1_85) rfl ((if0 _ _).trans (feq (mt (lw_eq _ _).mp hc7)).2) (by decide) (by decide) ?_
                    show Steps p.tables e below (s₁.setTop (mkF m 91 #[.val (.long q1), .second] [])) _
                    refine XS.lloadN X0.here hx rfl (hb hby d1_91) rfl ?_
                    show Steps p.tables e below (s₁.setTop (mkF m 92 #[.val (.long q1), .second] [(.long q1)])) _
                    refine XS.bipush X0.here hx rfl (hb hby d1_92) ?_
                    show Steps p.tables e below (s₁.setTop (mkF m 94 #[.val (.long q1), .second] [(.int (63 : Int32)), (.long q1)])) _
                    refine XS.lushr X0.here hx rfl (hb hby d1_94) rfl ?_
                    show Steps p.tables e below (s₁.setTop (mkF m 95 #[.val (.long q1), .second] [(.long ((q1.toUInt64 >>> ((63 : Int32) &&& 0x3f).toInt64.toUInt64).toInt64))])) _
                    refine XS.lconst X0.here hx rfl (hb hby d1_95) ?_
                    show Steps p.tables e below (s₁.setTop (mkF m 96 #[.val (.long q1), .second] [(.long (0 : Int64)), (.long ((q1.toUInt64 >>> ((63 : Int32) &&& 0x3f).toInt64.toUInt64).toInt64))])) _
                    refine XS.lcmp X0.here hx rfl (hb hby d1_96) rfl ?_
                    exact k_)
                  by_cases hc8 : ((q1.toUInt64 >>> ((63 : Int32) &&& 0x3f).toInt64.toUInt64).toInt64) = (0 : Int64)
                  · skip
                    have hh : own_u q1 / 2 ^ 63 = 0 := by rw [← own_sh q1 (63 : Int32) 63 (by decide) (by decide)]; exact (own_zero _).mp hc8
                    have hu : own_u q1 < 128 ^ 9 := (Nat.div_eq_zero_iff_lt (by decide)).mp hh
                    have pre118 : ∀ t_, Steps p.tables e below (s₁.setTop (mkF m 102 #[.val (.long q1), .second] [(.int (9 : Int32))])) t_ → Steps p.tables e below (s₁.setTop (entryFrame m #[(.long q1)] 2)) t_ := fun t_ k_ => pre117 _ (by
                      show Steps p.tables e below (s₁.setTop (mkF m 97 #[.val (.long q1), .second] [(.int (lcmpW ((q1.toUInt64 >>> ((63 : Int32) &&& 0x3f).toInt64.toUInt64).toInt64) (0 : Int64)))])) _
                      refine XS.ifNo X0.here hx rfl (hb hby d1_97) rfl ((if0 _ _).trans (teq ((lw_eq _ _).mpr hc8)).2) ?_
                      show Steps p.tables e below (s₁.setTop (mkF m 100 #[.val (.long q1), .second] [])) _
                      refine XS.bipush X0.here hx rfl (hb hby d1_100) ?_
                      exact k_)
                    obtain ⟨fs, hr, hrun, hended, hW, hsame⟩ := X0.leave (v := some (.int (9 : Int32))) (fun h => by rw [Bd.returns] at h; cases h)
                    refine ⟨_, _, pre118 _ ?_, hrun, hended, _, _, rfl, ?_, ⟨_, rfl⟩, hW, hsame.mono (by decide) (by decide)⟩
                    · show Steps p.tables e below (s₁.setTop (mkF m 102 #[.val (.long q1), .second] [(.int (9 : Int32))])) _
                      exact retI X0 hx Bd.returns (hb hby d1_102) hr
                    · show QrmG Z q1 h0 n0 _ s₁.heap _
                      rw [e0]
                      exact ⟨9, rfl, N0, rfl, by decide, by decide, hu, Or.inr hb7⟩
                  · skip
                    have hh : ¬ own_u q1 / 2 ^ 63 = 0 := fun z => hc8 ((own_zero _).mpr (by rw [own_sh q1 (63 : Int32) 63 (by decide) (by decide)]; exact z))
                    have hb8 : 128 ^ 9 ≤ own_u q1 := Nat.le_of_not_lt fun z => hh ((Nat.div_eq_zero_iff_lt (by decide)).mpr z)
                    have pre119 : ∀ t_, Steps p.tables e below (s₁.setTop (mkF m 105 #[.val (.long q1), .second] [(.int (10 : Int32))])) t_ → Steps p.tables e below (s₁.setTop (entryFrame m #[(.long q1)] 2)) t_ := fun t_ k_ => pre117 _ (by
                      show Steps p.tables e below (s₁.setTop (mkF m 97 #[.val (.long q1), .second] [(.int (lcmpW ((q1.toUInt64 >>> ((63 : Int32) &&& 0x3f).toInt64.toUInt64).toInt64) (0 : Int64)))])) _
                      refine XS.ifYes X0.here hx rfl (pc0 := 97) (pc' := 103) rfl (hb hby d1_97) rfl ((if0 _ _).trans (feq (mt (lw_eq _ _).mp hc8)).2) (by decide) (by decide) ?_
                      show Steps p.tables e below (s₁.setTop (mkF m 103 #[.val (.long q1), .second] [])) _
                      refine XS.bipush X0.here hx rfl (hb hby d1_103) ?_
                      exact k_)
                    obtain ⟨fs, hr, hrun, hended, hW, hsame⟩ := X0.leave (v := some (.int (10 : Int32))) (fun h => by rw [Bd.returns] at h; cases h)
                    refine ⟨_, _, pre119 _ ?_, hrun, hended, _, _, rfl, ?_, ⟨_, rfl⟩, hW, hsame.mono (by decide) (by decide)⟩
                    · show Steps p.tables e below (s₁.setTop (mkF m 105 #[.val (.long q1), .second] [(.int (10 : Int32))])) _
                      exact retI X0 hx Bd.returns (hb hby d1_105) hr
                    · show QrmG Z q1 h0 n0 _ s₁.heap _
                      rw [e0]
                      exact ⟨10, rfl, N0, rfl, by decide, by decide, Nat.lt_of_lt_of_le (own_ult q1) (by decide), Or.inr hb8⟩
theorem d2_0 : decode prog_222_method_17_code 0 = .ok (.iload_n 3, 1) := by decide +kernel
theorem d2_1 : decode prog_222_method_17_code 1 = .ok (.istore 4, 2) := by decide +kernel
theorem d2_3 : decode prog_222_method_17_code 3 = .ok (.lload_n 0, 1) := by decide +kernel
theorem d2_4 : decode prog_222_method_17_code 4 = .ok (.lstore 5, 2) := by decide +kernel
theorem d2_6 : decode prog_222_method_17_code 6 = .ok (.lload 5, 2) := by decide +kernel
theorem d2_8 : decode prog_222_method_17_code 8 = .ok (.ldc2_w 72, 3) := by decide +kernel
theorem d2_11 : decode prog_222_method_17_code 11 = .ok (.land, 1) := by decide +kernel
theorem d2_12 : decode prog_222_method_17_code 12 = .ok (.lconst 0, 1) := by decide +kernel
theorem d2_13 : decode prog_222_method_17_code 13 = .ok (.lcmp, 1) := by decide +kernel
theorem d2_14 : decode prog_222_method_17_code 14 = .ok (.ifCond .eq 32, 3) := by decide +kernel
theorem d2_17 : decode prog_222_method_17_code 17 = .ok (.aload_n 2, 1) := by decide +kernel
theorem d2_18 : decode prog_222_method_17_code 18 = .ok (.iload 4, 2) := by decide +kernel
theorem d2_20 : decode prog_222_method_17_code 20 = .ok (.iinc 4 1, 3) := by decide +kernel
theorem d2_23 : decode prog_222_method_17_code 23 = .ok (.lload 5, 2) := by decide +kernel
theorem d2_25 : decode prog_222_method_17_code 25 = .ok (.ldc2_w 74, 3) := by decide +kernel
theorem d2_28 : decode prog_222_method_17_code 28 = .ok (.land, 1) := by decide +kernel
theorem d2_29 : decode prog_222_method_17_code 29 = .ok (.ldc2_w 76, 3) := by decide +kernel
theorem d2_32 : decode prog_222_method_17_code 32 = .ok (.lor, 1) := by decide +kernel
theorem d2_33 : decode prog_222_method_17_code 33 = .ok (.l2i, 1) := by decide +kernel
theorem d2_34 : decode prog_222_method_17_code 34 = .ok (.i2b, 1) := by decide +kernel
theorem d2_35 : decode prog_222_method_17_code 35 = .ok (.bastore, 1) := by decide +kernel
theorem d2_36 : decode prog_222_method_17_code 36 = .ok (.lload 5, 2) := by decide +kernel
theorem d2_38 : decode prog_222_method_17_code 38 = .ok (.bipush 7, 2) := by decide +kernel
theorem d2_40 : decode prog_222_method_17_code 40 = .ok (.lushr, 1) := by decide +kernel
theorem d2_41 : decode prog_222_method_17_code 41 = .ok (.lstore 5, 2) := by decide +kernel
theorem d2_43 : decode prog_222_method_17_code 43 = .ok (.goto (-37), 3) := by decide +kernel
theorem d2_46 : decode prog_222_method_17_code 46 = .ok (.aload_n 2, 1) := by decide +kernel
theorem d2_47 : decode prog_222_method_17_code 47 = .ok (.iload 4, 2) := by decide +kernel
theorem d2_49 : decode prog_222_method_17_code 49 = .ok (.iinc 4 1, 3) := by decide +kernel
theorem d2_52 : decode prog_222_method_17_code 52 = .ok (.lload 5, 2) := by decide +kernel
theorem d2_54 : decode prog_222_method_17_code 54 = .ok (.l2i, 1) := by decide +kernel
theorem d2_55 : decode prog_222_method_17_code 55 = .ok (.i2b, 1) := by decide +kernel
theorem d2_56 : decode prog_222_method_17_code 56 = .ok (.bastore, 1) := by decide +kernel
theorem d2_57 : decode prog_222_method_17_code 57 = .ok (.iload 4, 2) := by decide +kernel
theorem d2_59 : decode prog_222_method_17_code 59 = .ok (.ireturn, 1) := by decide +kernel
theorem pn_1 : plainName "com/example/termite/termite/protocol/Varints" = true := by first | (simp [plainName, overriddenIn]; done) | decide +kernel
theorem ef_rmW (m : MethodId) (x0 : Int64) (x1 : Addr) (x2 : Int32) : entryFrame m #[(.long x0), (.ref x1), (.int x2)] 7 = mkF m 0 #[.val (.long x0), .second, .val (.ref x1), .val (.int x2), .unset, .unset, .unset] [] := by first | (simp [entryFrame, mkF, argsToLocals, Value.category]; done) | rfl
def QrmW (Z : State) (q1 : Int64) (a2 : Addr) (aN : Nat) (h0 : Heap) (n0 : Nat) (v : Option Value) (h : Heap) (L : List Loc) : Prop := ∃ mm : Nat, v = some (.int (Int32.ofNat (aN + mm + 1))) ∧ Fr n0 L ∧ Keep h0 h [a2] ∧ own_Ar Z h a2 (own_out (own_u q1) aN mm) ∧ mm ≤ 9 ∧ own_u q1 / 128 ^ mm < 128 ∧ (mm = 0 ∨ 128 ≤ own_u q1 / 128 ^ (mm - 1))
set_option maxRecDepth 65536 in
set_option maxHeartbeats 40000000 in
theorem rmW (l : Launch) (Z : State) (a0 : Array Value) (hw : ∀ d ∈ tables_1, d.before a0 Z = true) (ws : List Jvm.Cond) (q1 : Int64) (a2 : Addr) (aN : Nat) (h0 : Heap) (n0 : Nat) (Z0 : n0 ≤ h0.size) (b1 : 1 ≤ aN) (b2 : aN ≤ 8) (V : own_Ar Z h0 a2 (fun _ => 90)) (g_a2 : n0 ≤ a2) :
    MetFree l (⟨"com/example/termite/termite/protocol/Varints", "writeUnsigned", "(J[BI)I"⟩ : MethodName) (head1 (Jvm.Cond.code (⟨"com/example/termite/termite/protocol/Varints", "writeUnsigned", "(J[BI)I"⟩ : MethodName) prog_222_method_17_code 7 (some .int) :: ws) ({ frames := 0, cells := 0, slots := 0, locals := 0 } : Room)) (fun a U => a = #[(.long q1), (.ref a2), (.int (Int32.ofNat aN))] ∧ Z.Warmed39 U.vm ∧ U.heap = h0) (fun _ _ _ _ _ => True) (fun _ U o U' => ∃ v L, o = .returned v ∧ QrmW Z q1 a2 aN h0 n0 v U'.heap L ∧ FrameEnd U o U' L ({ frames := 0, cells := 0, slots := 0, locals := 0 } : Room).cells ({ frames := 0, cells := 0, slots := 0, locals := 0 } : Room).slots) := by
  refine MetFree.of_bodySF (plainFor_of_name pn_1) hisR ?_
  intro p e s m args below meth c s₁ Bd hml0 hP hK
  obtain ⟨rfl, hZ, hh⟩ := hP
  have hx := Bd.exec
  have hby := Bd.bytes
  have hml : c.maxLocals = 7 := hml0
  have hown : s.vm.findClass "com/example/termite/termite/protocol/Varints" = some m.cls := findClass_of_methodNamed Bd.named
  have hnm := (name_of_methodNamed Bd.named Bd.method).1
  have X0 : Stand p l e ({ frames := 0, cells := 0, slots := 0, locals := 0 } : Room) s m #[(.long q1), (.ref a2), (.int (Int32.ofNat aN))] below meth c s₁ [] 0 0 := Stand.of_body Bd
  have e0 : s₁.heap = h0 := by rw [← hh, Bd.state]; rfl
  have N0 := Fr.nil n0
  have pre0 : ∀ t_, Steps p.tables e below (s₁.setTop (mkF m 0 #[.val (.long q1), .second, .val (.ref a2), .val (.int (Int32.ofNat aN)), .unset, .unset, .unset] [])) t_ → Steps p.tables e below (s₁.setTop (entryFrame m #[(.long q1), (.ref a2), (.int (Int32.ofNat aN))] 7)) t_ := fun t_ k_ => castTop (ef_rmW m q1 a2 ((Int32.ofNat aN))) k_
  have loop : ∀ (N : Nat) (x : Int64) (ps : Nat) (g : Nat → Int32) (T1 : State) (h1 : Heap) (lc : List Loc), own_u x < 128 ^ (N + 1) → ps + N ≤ 19 → Stand p l e ({ frames := 0, cells := 0, slots := 0, locals := 0 } : Room) s m #[(.long q1), (.ref a2), (.int (Int32.ofNat aN))] below meth c T1 lc 0 0 → T1.heap = h1 → Fr n0 lc → own_Ar Z h1 a2 g →
      ∃ (mm : Nat) (x' : Int64) (g' : Nat → Int32) (T' : State) (h' : Heap) (lc' : List Loc), mm ≤ N ∧ own_u x' = own_u x / 128 ^ mm ∧ own_u x' < 128 ∧ (mm = 0 ∨ 128 ≤ own_u x / 128 ^ (mm - 1)) ∧ Stand p l e ({ frames := 0, cells := 0, slots := 0, locals := 0 } : Room) s m #[(.long q1), (.ref a2), (.int (Int32.ofNat aN))] below meth c T' lc' 0 0 ∧ T'.heap = h' ∧ Fr n0 lc' ∧ Keep h1 h' [a2] ∧ own_Ar Z h' a2 g' ∧ (∀ j, g' j = if ps ≤ j ∧ j < ps + mm then own_b1 (own_u x / 128 ^ (j - ps)) else g j) ∧
        ∀ t_, Steps p.tables e below (T'.setTop (mkF m 46 #[.val (.long q1), .second, .val (.ref a2), .val (.int (Int32.ofNat aN)), .val (.int (Int32.ofNat (ps + mm))), .val (.long x'), .second] [])) t_ → Steps p.tables e below (T1.setTop (mkF m 6 #[.val (.long q1), .second, .val (.ref a2), .val (.int (Int32.ofNat aN)), .val (.int (Int32.ofNat ps)), .val (.long x), .second] [])) t_ := by
    intro N
    induction N with
    | zero =>
      intro x ps g T1 h1 lc z1 z2 X1 e1 N1 V1
      have hlt : own_u x < 128 := z1
      have pre101 : ∀ t_, Steps p.tables e below (T1.setTop (mkF m 6 #[.val (.long q1), .second, .val (.ref a2), .val (.int (Int32.ofNat aN)), .val (.int (Int32.ofNat ps)), .val (.long x), .second] [])) t_ → Steps p.tables e below (T1.setTop (mkF m 6 #[.val (.long q1), .second, .val (.ref a2), .val (.int (Int32.ofNat aN)), .val (.int (Int32.ofNat ps)), .val (.long x), .second] [])) t_ := fun _ k_ => k_
      have pre102 : ∀ t_, Steps p.tables e below (T1.setTop (mkF m 46 #[.val (.long q1), .second, .val (.ref a2), .val (.int (Int32.ofNat aN)), .val (.int (Int32.ofNat ps)), .val (.long x), .second] [])) t_ → Steps p.tables e below (T1.setTop (mkF m 6 #[.val (.long q1), .second, .val (.ref a2), .val (.int (Int32.ofNat aN)), .val (.int (Int32.ofNat ps)), .val (.long x), .second] [])) t_ := fun t_ k_ => pre101 _ (by
        show Steps p.tables e below (T1.setTop (mkF m 6 #[.val (.long q1), .second, .val (.ref a2), .val (.int (Int32.ofNat aN)), .val (.int (Int32.ofNat ps)), .val (.long x), .second] [])) _
        refine XS.lload X1.here hx rfl (hb hby d2_6) rfl ?_
        show Steps p.tables e below (T1.setTop (mkF m 8 #[.val (.long q1), .second, .val (.ref a2), .val (.int (Int32.ofNat aN)), .val (.int (Int32.ofNat ps)), .val (.long x), .second] [(.long x)])) _
        refine X1.ldc2Long hx hown (mvT hZ (hw _ (List.mem_of_getElem? (i := 9) rfl))) (g := (mkF m 8 #[.val (.long q1), .second, .val (.ref a2), .val (.int (Int32.ofNat aN)), .val (.int (Int32.ofNat ps)), .val (.long x), .second] [(.long x)])) rfl (hb hby d2_8) _ ?_
        show Steps p.tables e below (T1.setTop (mkF m 11 #[.val (.long q1), .second, .val (.ref a2), .val (.int (Int32.ofNat aN)), .val (.int (Int32.ofNat ps)), .val (.long x), .second] [(.long (-128 : Int64)), (.long x)])) _
        refine XS.land X1.here hx rfl (hb hby d2_11) rfl ?_
        show Steps p.tables e below (T1.setTop (mkF m 12 #[.val (.long q1), .second, .val (.ref a2), .val (.int (Int32.ofNat aN)), .val (.int (Int32.ofNat ps)), .val (.long x), .second] [(.long (x &&& (-128 : Int64)))])) _
        refine XS.lconst X1.here hx rfl (hb hby d2_12) ?_
        show Steps p.tables e below (T1.setTop (mkF m 13 #[.val (.long q1), .second, .val (.ref a2), .val (.int (Int32.ofNat aN)), .val (.int (Int32.ofNat ps)), .val (.long x), .second] [(.long (0 : Int64)), (.long (x &&& (-128 : Int64)))])) _
        refine XS.lcmp X1.here hx rfl (hb hby d2_13) rfl ?_
        show Steps p.tables e below (T1.setTop (mkF m 14 #[.val (.long q1), .second, .val (.ref a2), .val (.int (Int32.ofNat aN)), .val (.int (Int32.ofNat ps)), .val (.long x), .second] [(.int (lcmpW (x &&& (-128 : Int64)) (0 : Int64)))])) _
        refine XS.ifYes X1.here hx rfl (pc0 := 14) (pc' := 46) rfl (hb hby d2_14) rfl ((if0 _ _).trans (teq ((lw_eq _ _).mpr ((own_m128 x).mpr hlt))).1) (by decide) (by decide) ?_
        exact k_)
      exact ⟨0, x, g, T1, h1, lc, Nat.zero_le _, by rw [Nat.pow_zero, Nat.div_one], hlt, Or.inl rfl, X1, e1, N1, Keep.refl _ _, V1, fun j => by rw [if_neg (by omega)], pre102⟩
    | succ N ih =>
      intro x ps g T1 h1 lc z1 z2 X1 e1 N1 V1
      by_cases hlt : own_u x < 128
      · skip
        have pre103 : ∀ t_, Steps p.tables e below (T1.setTop (mkF m 6 #[.val (.long q1), .second, .val (.ref a2), .val (.int (Int32.ofNat aN)), .val (.int (Int32.ofNat ps)), .val (.long x), .second] [])) t_ → Steps p.tables e below (T1.setTop (mkF m 6 #[.val (.long q1), .second, .val (.ref a2), .val (.int (Int32.ofNat aN)), .val (.int (Int32.ofNat ps)), .val (.long x), .second] [])) t_ := fun _ k_ => k_
        have pre104 : ∀ t_, Steps p.tables e below (T1.setTop (mkF m 46 #[.val (.long q1), .second, .val (.ref a2), .val (.int (Int32.ofNat aN)), .val (.int (Int32.ofNat ps)), .val (.long x), .second] [])) t_ → Steps p.tables e below (T1.setTop (mkF m 6 #[.val (.long q1), .second, .val (.ref a2), .val (.int (Int32.ofNat aN)), .val (.int (Int32.ofNat ps)), .val (.long x), .second] [])) t_ := fun t_ k_ => pre103 _ (by
          show Steps p.tables e below (T1.setTop (mkF m 6 #[.val (.long q1), .second, .val (.ref a2), .val (.int (Int32.ofNat aN)), .val (.int (Int32.ofNat ps)), .val (.long x), .second] [])) _
          refine XS.lload X1.here hx rfl (hb hby d2_6) rfl ?_
          show Steps p.tables e below (T1.setTop (mkF m 8 #[.val (.long q1), .second, .val (.ref a2), .val (.int (Int32.ofNat aN)), .val (.int (Int32.ofNat ps)), .val (.long x), .second] [(.long x)])) _
          refine X1.ldc2Long hx hown (mvT hZ (hw _ (List.mem_of_getElem? (i := 9) rfl))) (g := (mkF m 8 #[.val (.long q1), .second, .val (.ref a2), .val (.int (Int32.ofNat aN)), .val (.int (Int32.ofNat ps)), .val (.long x), .second] [(.long x)])) rfl (hb hby d2_8) _ ?_
          show Steps p.tables e below (T1.setTop (mkF m 11 #[.val (.long q1), .second, .val (.ref a2), .val (.int (Int32.ofNat aN)), .val (.int (Int32.ofNat ps)), .val (.long x), .second] [(.long (-128 : Int64)), (.long x)])) _
          refine XS.land X1.here hx rfl (hb hby d2_11) rfl ?_
          show Steps p.tables e below (T1.setTop (mkF m 12 #[.val (.long q1), .second, .val (.ref a2), .val (.int (Int32.ofNat aN)), .val (.int (Int32.ofNat ps)), .val (.long x), .second] [(.long (x &&& (-128 : Int64)))])) _
          refine XS.lconst X1.here hx rfl (hb hby d2_12) ?_
          show Steps p.tables e below (T1.setTop (mkF m 13 #[.val (.long q1), .second, .val (.ref a2), .val (.int (Int32.ofNat aN)), .val (.int (Int32.ofNat ps)), .val (.long x), .second] [(.long (0 : Int64)), (.long (x &&& (-128 : Int64)))])) _
          refine XS.lcmp X1.here hx rfl (hb hby d2_13) rfl ?_
          show Steps p.tables e below (T1.setTop (mkF m 14 #[.val (.long q1), .second, .val (.ref a2), .val (.int (Int32.ofNat aN)), .val (.int (Int32.ofNat ps)), .val (.long x), .second] [(.int (lcmpW (x &&& (-128 : Int64)) (0 : Int64)))])) _
          refine XS.ifYes X1.here hx rfl (pc0 := 14) (pc' := 46) rfl (hb hby d2_14) rfl ((if0 _ _).trans (teq ((lw_eq _ _).mpr ((own_m128 x).mpr hlt))).1) (by decide) (by decide) ?_
          exact k_)
        exact ⟨0, x, g, T1, h1, lc, Nat.zero_le _, by rw [Nat.pow_zero, Nat.div_one], hlt, Or.inl rfl, X1, e1, N1, Keep.refl _ _, V1, fun j => by rw [if_neg (by omega)], pre104⟩
      · skip
        have pre105 : ∀ t_, Steps p.tables e below (T1.setTop (mkF m 6 #[.val (.long q1), .second, .val (.ref a2), .val (.int (Int32.ofNat aN)), .val (.int (Int32.ofNat ps)), .val (.long x), .second] [])) t_ → Steps p.tables e below (T1.setTop (mkF m 6 #[.val (.long q1), .second, .val (.ref a2), .val (.int (Int32.ofNat aN)), .val (.int (Int32.ofNat ps)), .val (.long x), .second] [])) t_ := fun _ k_ => k_
        obtain ⟨cl, Ar, Sz, Hs⟩ := V1
        have hin := own_ofin (a := ps) Sz (by omega)
        obtain ⟨T106, h106, X106, e106, W106, st106⟩ := stB X1 hx hZ e1 Ar (j := (Int32.ofNat ps)) hin (g := (mkF m 35 #[.val (.long q1), .second, .val (.ref a2), .val (.int (Int32.ofNat aN)), .val (.int ((Int32.ofNat ps) + (1 : Int32))), .val (.long x), .second] [(.int ((((x &&& (127 : Int64)) ||| (128 : Int64)).toInt32).toInt8.toInt32)), (.int (Int32.ofNat ps)), (.ref a2)])) rfl rfl (hb hby d2_35)
        rw [own_ofc (by omega), own_w1 x] at W106
        have V2 := own_Arwr Ar Sz Hs W106 (by omega)
        have N2 := Fr.snoc X106 N1 g_a2
        have pre107 : ∀ t_, Steps p.tables e below (T106.setTop (mkF m 6 #[.val (.long q1), .second, .val (.ref a2), .val (.int (Int32.ofNat aN)), .val (.int ((Int32.ofNat ps) + (1 : Int32))), .val (.long ((x.toUInt64 >>> ((7 : Int32) &&& 0x3f).toInt64.toUInt64).toInt64)), .second] [])) t_ → Steps p.tables e below (T1.setTop (mkF m 6 #[.val (.long q1), .second, .val (.ref a2), .val (.int (Int32.ofNat aN)), .val (.int (Int32.ofNat ps)), .val (.long x), .second] [])) t_ := fun t_ k_ => pre105 _ (by
          show Steps p.tables e below (T1.setTop (mkF m 6 #[.val (.long q1), .second, .val (.ref a2), .val (.int (Int32.ofNat aN)), .val (.int (Int32.ofNat ps)), .val (.long x), .second] [])) _
          refine XS.lload X1.here hx rfl (hb hby d2_6) rfl ?_
          show Steps p.tables e below (T1.setTop (mkF m 8 #[.val (.long q1), .second, .val (.ref a2), .val (.int (Int32.ofNat aN)), .val (.int (Int32.ofNat ps)), .val (.long x), .second] [(.long x)])) _
          refine X1.ldc2Long hx hown (mvT hZ (hw _ (List.mem_of_getElem? (i := 9) rfl))) (g := (mkF m 8 #[.val (.long q1), .second, .val (.ref a2), .val (.int (Int32.ofNat aN)), .val (.int (Int32.ofNat ps)), .val (.long x), .second] [(.long x)])) rfl (hb hby d2_8) _ ?_
          show Steps p.tables e below (T1.setTop (mkF m 11 #[.val (.long q1), .second, .val (.ref a2), .val (.int (Int32.ofNat aN)), .val (.int (Int32.ofNat ps)), .val (.long x), .second] [(.long (-128 : Int64)), (.long x)])) _
          refine XS.land X1.here hx rfl (hb hby d2_11) rfl ?_
          show Steps p.tables e below (T1.setTop (mkF m 12 #[.val (.long q1), .second, .val (.ref a2), .val (.int (Int32.ofNat aN)), .val (.int (Int32.ofNat ps)), .val (.long x), .second] [(.long (x &&& (-128 : Int64)))])) _
          refine XS.lconst X1.here hx rfl (hb hby d2_12) ?_
          show Steps p.tables e below (T1.setTop (mkF m 13 #[.val (.long q1), .second, .val (.ref a2), .val (.int (Int32.ofNat aN)), .val (.int (Int32.ofNat ps)), .val (.long x), .second] [(.long (0 : Int64)), (.long (x &&& (-128 : Int64)))])) _
          refine XS.lcmp X1.here hx rfl (hb hby d2_13) rfl ?_
          show Steps p.tables e below (T1.setTop (mkF m 14 #[.val (.long q1), .second, .val (.ref a2), .val (.int (Int32.ofNat aN)), .val (.int (Int32.ofNat ps)), .val (.long x), .second] [(.int (lcmpW (x &&& (-128 : Int64)) (0 : Int64)))])) _
          refine XS.ifNo X1.here hx rfl (hb hby d2_14) rfl ((if0 _ _).trans (feq (mt (lw_eq _ _).mp (mt (own_m128 x).mp hlt))).1) ?_
          show Steps p.tables e below (T1.setTop (mkF m 17 #[.val (.long q1), .second, .val (.ref a2), .val (.int (Int32.ofNat aN)), .val (.int (Int32.ofNat ps)), .val (.long x), .second] [])) _
          refine XS.aloadN X1.here hx rfl (hb hby d2_17) rfl rfl ?_
          show Steps p.tables e below (T1.setTop (mkF m 18 #[.val (.long q1), .second, .val (.ref a2), .val (.int (Int32.ofNat aN)), .val (.int (Int32.ofNat ps)), .val (.long x), .second] [(.ref a2)])) _
          refine XS.iload X1.here hx rfl (hb hby d2_18) rfl ?_
          show Steps p.tables e below (T1.setTop (mkF m 20 #[.val (.long q1), .second, .val (.ref a2), .val (.int (Int32.ofNat aN)), .val (.int (Int32.ofNat ps)), .val (.long x), .second] [(.int (Int32.ofNat ps)), (.ref a2)])) _
          refine XS.iinc X1.here hx rfl (hb hby d2_20) rfl (l' := #[.val (.long q1), .second, .val (.ref a2), .val (.int (Int32.ofNat aN)), .val (.int ((Int32.ofNat ps) + (1 : Int32))), .val (.long x), .second]) rfl ?_
          show Steps p.tables e below (T1.setTop (mkF m 23 #[.val (.long q1), .second, .val (.ref a2), .val (.int (Int32.ofNat aN)), .val (.int ((Int32.ofNat ps) + (1 : Int32))), .val (.long x), .second] [(.int (Int32.ofNat ps)), (.ref a2)])) _
          refine XS.lload X1.here hx rfl (hb hby d2_23) rfl ?_
          show Steps p.tables e below (T1.setTop (mkF m 25 #[.val (.long q1), .second, .val (.ref a2), .val (.int (Int32.ofNat aN)), .val (.int ((Int32.ofNat ps) + (1 : Int32))), .val (.long x), .second] [(.long x), (.int (Int32.ofNat ps)), (.ref a2)])) _
          refine X1.ldc2Long hx hown (mvT hZ (hw _ (List.mem_of_getElem? (i := 14) rfl))) (g := (mkF m 25 #[.val (.long q1), .second, .val (.ref a2), .val (.int (Int32.ofNat aN)), .val (.int ((Int32.ofNat ps) + (1 : Int32))), .val (.long x), .second] [(.long x), (.int (Int32.ofNat ps)), (.ref a2)])) rfl (hb hby d2_25) _ ?_
          show Steps p.tables e below (T1.setTop (mkF m 28 #[.val (.long q1), .second, .val (.ref a2), .val (.int (Int32.ofNat aN)), .val (.int ((Int32.ofNat ps) + (1 : Int32))), .val (.long x), .second] [(.long (127 : Int64)), (.long x), (.int (Int32.ofNat ps)), (.ref a2)])) _
          refine XS.land X1.here hx rfl (hb hby d2_28) rfl ?_
          show Steps p.tables e below (T1.setTop (mkF m 29 #[.val (.long q1), .second, .val (.ref a2), .val (.int (Int32.ofNat aN)), .val (.int ((Int32.ofNat ps) + (1 : Int32))), .val (.long x), .second] [(.long (x &&& (127 : Int64))), (.int (Int32.ofNat ps)), (.ref a2)])) _
          refine X1.ldc2Long hx hown (mvT hZ (hw _ (List.mem_of_getElem? (i := 15) rfl))) (g := (mkF m 29 #[.val (.long q1), .second, .val (.ref a2), .val (.int (Int32.ofNat aN)), .val (.int ((Int32.ofNat ps) + (1 : Int32))), .val (.long x), .second] [(.long (x &&& (127 : Int64))), (.int (Int32.ofNat ps)), (.ref a2)])) rfl (hb hby d2_29) _ ?_
          show Steps p.tables e below (T1.setTop (mkF m 32 #[.val (.long q1), .second, .val (.ref a2), .val (.int (Int32.ofNat aN)), .val (.int ((Int32.ofNat ps) + (1 : Int32))), .val (.long x), .second] [(.long (128 : Int64)), (.long (x &&& (127 : Int64))), (.int (Int32.ofNat ps)), (.ref a2)])) _
          refine XS.lor X1.here hx rfl (hb hby d2_32) rfl ?_
          show Steps p.tables e below (T1.setTop (mkF m 33 #[.val (.long q1), .second, .val (.ref a2), .val (.int (Int32.ofNat aN)), .val (.int ((Int32.ofNat ps) + (1 : Int32))), .val (.long x), .second] [(.long ((x &&& (127 : Int64)) ||| (128 : Int64))), (.int (Int32.ofNat ps)), (.ref a2)])) _
          refine XS.l2i X1.here hx rfl (hb hby d2_33) rfl ?_
          show Steps p.tables e below (T1.setTop (mkF m 34 #[.val (.long q1), .second, .val (.ref a2), .val (.int (Int32.ofNat aN)), .val (.int ((Int32.ofNat ps) + (1 : Int32))), .val (.long x), .second] [(.int (((x &&& (127 : Int64)) ||| (128 : Int64)).toInt32)), (.int (Int32.ofNat ps)), (.ref a2)])) _
          refine XS.i2b X1.here hx rfl (hb hby d2_34) rfl ?_
          show Steps p.tables e below (T1.setTop (mkF m 35 #[.val (.long q1), .second, .val (.ref a2), .val (.int (Int32.ofNat aN)), .val (.int ((Int32.ofNat ps) + (1 : Int32))), .val (.long x), .second] [(.int ((((x &&& (127 : Int64)) ||| (128 : Int64)).toInt32).toInt8.toInt32)), (.int (Int32.ofNat ps)), (.ref a2)])) _
          refine st106 _ ?_
          show Steps p.tables e below (T106.setTop (mkF m 36 #[.val (.long q1), .second, .val (.ref a2), .val (.int (Int32.ofNat aN)), .val (.int ((Int32.ofNat ps) + (1 : Int32))), .val (.long x), .second] [])) _
          refine XS.lload X106.here hx rfl (hb hby d2_36) rfl ?_
          show Steps p.tables e below (T106.setTop (mkF m 38 #[.val (.long q1), .second, .val (.ref a2), .val (.int (Int32.ofNat aN)), .val (.int ((Int32.ofNat ps) + (1 : Int32))), .val (.long x), .second] [(.long x)])) _
          refine XS.bipush X106.here hx rfl (hb hby d2_38) ?_
          show Steps p.tables e below (T106.setTop (mkF m 40 #[.val (.long q1), .second, .val (.ref a2), .val (.int (Int32.ofNat aN)), .val (.int ((Int32.ofNat ps) + (1 : Int32))), .val (.long x), .second] [(.int (7 : Int32)), (.long x)])) _
          refine XS.lushr X106.here hx rfl (hb hby d2_40) rfl ?_
          show Steps p.tables e below (T106.setTop (mkF m 41 #[.val (.long q1), .second, .val (.ref a2), .val (.int (Int32.ofNat aN)), .val (.int ((Int32.ofNat ps) + (1 : Int32))), .val (.long x), .second] [(.long ((x.toUInt64 >>> ((7 : Int32) &&& 0x3f).toInt64.toUInt64).toInt64))])) _
          refine XS.lstore X106.here hx rfl (hb hby d2_41) rfl (l' := #[.val (.long q1), .second, .val (.ref a2), .val (.int (Int32.ofNat aN)), .val (.int ((Int32.ofNat ps) + (1 : Int32))), .val (.long ((x.toUInt64 >>> ((7 : Int32) &&& 0x3f).toInt64.toUInt64).toInt64)), .second]) rfl ?_
          show Steps p.tables e below (T106.setTop (mkF m 43 #[.val (.long q1), .second, .val (.ref a2), .val (.int (Int32.ofNat aN)), .val (.int ((Int32.ofNat ps) + (1 : Int32))), .val (.long ((x.toUInt64 >>> ((7 : Int32) &&& 0x3f).toInt64.toUInt64).toInt64)), .second] [])) _
          refine XS.goto X106.here hx rfl (pc0 := 43) (pc' := 6) rfl (hb hby d2_43) (by decide) (by decide) ?_
          exact k_)
        have eS : own_u ((x.toUInt64 >>> ((7 : Int32) &&& 0x3f).toInt64.toUInt64).toInt64) = own_u x / 128 := own_sh x 7 7 (by decide) (by decide)
        obtain ⟨mm, x', g', T', h', lc', y1, y2, y3, y4, X', e', N', K', V', y5, st'⟩ := ih ((x.toUInt64 >>> ((7 : Int32) &&& 0x3f).toInt64.toUInt64).toInt64) (ps + 1) _ _ _ _ (by rw [eS]; exact Nat.div_lt_of_lt_mul (by rw [Nat.mul_comm, ← Nat.pow_succ]; exact z1)) (by omega) X106 e106 N2 V2
        rw [eS] at y2 y4
        refine ⟨mm + 1, x', g', T', h', lc', by omega, by rw [y2, own_dd], y3, own_m2 hlt y4, X', e', N', (Keep.of_wr W106).trans K' (fun _ q => Or.inl q), V', fun j => by rw [y5 j, eS]; exact own_gstep _ _ _ _ _, fun t_ k_ => pre107 _ ?_⟩
        rw [own_of1]
        refine st' t_ ?_
        have eq1 : ps + 1 + mm = ps + (mm + 1) := by omega
        rw [eq1]
        exact k_
  have pre108 : ∀ t_, Steps p.tables e below (s₁.setTop (mkF m 6 #[.val (.long q1), .second, .val (.ref a2), .val (.int (Int32.ofNat aN)), .val (.int (Int32.ofNat aN)), .val (.long q1), .second] [])) t_ → Steps p.tables e below (s₁.setTop (entryFrame m #[(.long q1), (.ref a2), (.int (Int32.ofNat aN))] 7)) t_ := fun t_ k_ => pre0 _ (by
    show Steps p.tables e below (s₁.setTop (mkF m 0 #[.val (.long q1), .second, .val (.ref a2), .val (.int (Int32.ofNat aN)), .unset, .unset, .unset] [])) _
    refine XS.iloadN X0.here hx rfl (hb hby d2_0) rfl ?_
    show Steps p.tables e below (s₁.setTop (mkF m 1 #[.val (.long q1), .second, .val (.ref a2), .val (.int (Int32.ofNat aN)), .unset, .unset, .unset] [(.int (Int32.ofNat aN))])) _
    refine XS.istore X0.here hx rfl (hb hby d2_1) rfl (l' := #[.val (.long q1), .second, .val (.ref a2), .val (.int (Int32.ofNat aN)), .val (.int (Int32.ofNat aN)), .unset, .unset]) rfl ?_
    show Steps p.tables e below (s₁.setTop (mkF m 3 #[.val (.long q1), .second, .val (.ref a2), .val (.int (Int32.ofNat aN)), .val (.int (Int32.ofNat aN)), .unset, .unset] [])) _
    refine XS.lloadN X0.here hx rfl (hb hby d2_3) rfl ?_
    show Steps p.tables e below (s₁.setTop (mkF m 4 #[.val (.long q1), .second, .val (.ref a2), .val (.int (Int32.ofNat aN)), .val (.int (Int32.ofNat aN)), .unset, .unset] [(.long q1)])) _
    refine XS.lstore X0.here hx rfl (hb hby d2_4) rfl (l' := #[.val (.long q1), .second, .val (.ref a2), .val (.int (Int32.ofNat aN)), .val (.int (Int32.ofNat aN)), .val (.long q1), .second]) rfl ?_
    exact k_)
  obtain ⟨mm, x', g', T', h', lc', y1, y2, y3, y4, X', e', N', K', V', y5, st'⟩ := loop 9 q1 aN (fun _ => 90) s₁ h0 [] (Nat.lt_of_lt_of_le (own_ult q1) (by decide)) (by omega) X0 e0 N0 V
  obtain ⟨cl, Ar, Sz, Hs⟩ := V'
  have hin := own_ofin (a := aN + mm) Sz (by omega)
  obtain ⟨T109, h109, X109, e109, W109, st109⟩ := stB X' hx hZ e' Ar (j := (Int32.ofNat (aN + mm))) hin (g := (mkF m 56 #[.val (.long q1), .second, .val (.ref a2), .val (.int (Int32.ofNat aN)), .val (.int ((Int32.ofNat (aN + mm)) + (1 : Int32))), .val (.long x'), .second] [(.int ((x'.toInt32).toInt8.toInt32)), (.int (Int32.ofNat (aN + mm))), (.ref a2)])) rfl rfl (hb hby d2_56)
  rw [own_ofc (by omega), own_w0 y3, y2] at W109
  have V2 := own_Arwr Ar Sz Hs W109 (by omega)
  have N2 := Fr.snoc X109 N' g_a2
  have pre110 : ∀ t_, Steps p.tables e below (T109.setTop (mkF m 59 #[.val (.long q1), .second, .val (.ref a2), .val (.int (Int32.ofNat aN)), .val (.int ((Int32.ofNat (aN + mm)) + (1 : Int32))), .val (.long x'), .second] [(.int ((Int32.ofNat (aN + mm)) + (1 : Int32)))])) t_ → Steps p.tables e below (s₁.setTop (entryFrame m #[(.long q1), (.ref a2), (.int (Int32.ofNat aN))] 7)) t_ := fun t_ k_ => pre108 _ (by
    show Steps p.tables e below (s₁.setTop (mkF m 6 #[.val (.long q1), .second, .val (.ref a2), .val (.int (Int32.ofNat aN)), .val (.int (Int32.ofNat aN)), .val (.long q1), .second] [])) _
    refine st' _ ?_
    show Steps p.tables e below (T'.setTop (mkF m 46 #[.val (.long q1), .second, .val (.ref a2), .val (.int (Int32.ofNat aN)), .val (.int (Int32.ofNat (aN + mm))), .val (.long x'), .second] [])) _
    refine XS.aloadN X'.here hx rfl (hb hby d2_46) rfl rfl ?_
    show Steps p.tables e below (T'.setTop (mkF m 47 #[.val (.long q1), .second, .val (.ref a2), .val (.int (Int32.ofNat aN)), .val (.int (Int32.ofNat (aN + mm))), .val (.long x'), .second] [(.ref a2)])) _
    refine XS.iload X'.here hx rfl (hb hby d2_47) rfl ?_
    show Steps p.tables e below (T'.setTop (mkF m 49 #[.val (.long q1), .second, .val (.ref a2), .val (.int (Int32.ofNat aN)), .val (.int (Int32.ofNat (aN + mm))), .val (.long x'), .second] [(.int (Int32.ofNat (aN + mm))), (.ref a2)])) _
    refine XS.iinc X'.here hx rfl (hb hby d2_49) rfl (l' := #[.val (.long q1), .second, .val (.ref a2), .val (.int (Int32.ofNat aN)), .val (.int ((Int32.ofNat (aN + mm)) + (1 : Int32))), .val (.long x'), .second]) rfl ?_
    show Steps p.tables e below (T'.setTop (mkF m 52 #[.val (.long q1), .second, .val (.ref a2), .val (.int (Int32.ofNat aN)), .val (.int ((Int32.ofNat (aN + mm)) + (1 : Int32))), .val (.long x'), .second] [(.int (Int32.ofNat (aN + mm))), (.ref a2)])) _
    refine XS.lload X'.here hx rfl (hb hby d2_52) rfl ?_
    show Steps p.tables e below (T'.setTop (mkF m 54 #[.val (.long q1), .second, .val (.ref a2), .val (.int (Int32.ofNat aN)), .val (.int ((Int32.ofNat (aN + mm)) + (1 : Int32))), .val (.long x'), .second] [(.long x'), (.int (Int32.ofNat (aN + mm))), (.ref a2)])) _
    refine XS.l2i X'.here hx rfl (hb hby d2_54) rfl ?_
    show Steps p.tables e below (T'.setTop (mkF m 55 #[.val (.long q1), .second, .val (.ref a2), .val (.int (Int32.ofNat aN)), .val (.int ((Int32.ofNat (aN + mm)) + (1 : Int32))), .val (.long x'), .second] [(.int (x'.toInt32)), (.int (Int32.ofNat (aN + mm))), (.ref a2)])) _
    refine XS.i2b X'.here hx rfl (hb hby d2_55) rfl ?_
    show Steps p.tables e below (T'.setTop (mkF m 56 #[.val (.long q1), .second, .val (.ref a2), .val (.int (Int32.ofNat aN)), .val (.int ((Int32.ofNat (aN + mm)) + (1 : Int32))), .val (.long x'), .second] [(.int ((x'.toInt32).toInt8.toInt32)), (.int (Int32.ofNat (aN + mm))), (.ref a2)])) _
    refine st109 _ ?_
    show Steps p.tables e below (T109.setTop (mkF m 57 #[.val (.long q1), .second, .val (.ref a2), .val (.int (Int32.ofNat aN)), .val (.int ((Int32.ofNat (aN + mm)) + (1 : Int32))), .val (.long x'), .second] [])) _
    refine XS.iload X109.here hx rfl (hb hby d2_57) rfl ?_
    exact k_)
  obtain ⟨fs, hr, hrun, hended, hW, hsame⟩ := X109.leave (v := some (.int ((Int32.ofNat (aN + mm)) + (1 : Int32)))) (fun h => by rw [Bd.returns] at h; cases h)
  refine ⟨_, _, pre110 _ ?_, hrun, hended, _, _, rfl, ?_, ⟨_, rfl⟩, hW, hsame.mono (by decide) (by decide)⟩
  · show Steps p.tables e below (T109.setTop (mkF m 59 #[.val (.long q1), .second, .val (.ref a2), .val (.int (Int32.ofNat aN)), .val (.int ((Int32.ofNat (aN + mm)) + (1 : Int32))), .val (.long x'), .second] [(.int ((Int32.ofNat (aN + mm)) + (1 : Int32)))])) _
    exact retI X109 hx Bd.returns (hb hby d2_59) hr
  · show QrmW Z q1 a2 aN h0 n0 _ T109.heap _
    rw [e109]
    exact ⟨mm, by rw [own_of1], N2, K'.trans (Keep.of_wr W109) (fun _ q => Or.inl q), own_Arcongr V2 (fun j _ => by rw [y5 j]; exact own_gend _ _ _ _), y1, by rw [← y2]; exact y3, y4⟩
theorem d3_0 : decode method_3_code 0 = .ok (.iload_n 1, 1) := by decide +kernel
theorem d3_1 : decode method_3_code 1 = .ok (.iload_n 2, 1) := by decide +kernel
theorem d3_2 : decode method_3_code 2 = .ok (.isub, 1) := by decide +kernel
theorem d3_3 : decode method_3_code 3 = .ok (.istore 6, 2) := by decide +kernel
theorem d3_5 : decode method_3_code 5 = .ok (.iload 6, 2) := by decide +kernel
theorem d3_7 : decode method_3_code 7 = .ok (.ifCond .lt 10, 3) := by decide +kernel
theorem d3_10 : decode method_3_code 10 = .ok (.iload 6, 2) := by decide +kernel
theorem d3_12 : decode method_3_code 12 = .ok (.iload 5, 2) := by decide +kernel
theorem d3_14 : decode method_3_code 14 = .ok (.if_icmp .lt 17, 3) := by decide +kernel
theorem d3_17 : decode method_3_code 17 = .ok (.aload_n 0, 1) := by decide +kernel
theorem d3_18 : decode method_3_code 18 = .ok (.iload_n 1, 1) := by decide +kernel
theorem d3_19 : decode method_3_code 19 = .ok (.baload, 1) := by decide +kernel
theorem d3_20 : decode method_3_code 20 = .ok (.bipush 90, 2) := by decide +kernel
theorem d3_22 : decode method_3_code 22 = .ok (.if_icmp .ne 7, 3) := by decide +kernel
theorem d3_25 : decode method_3_code 25 = .ok (.iconst 1, 1) := by decide +kernel
theorem d3_26 : decode method_3_code 26 = .ok (.goto 4, 3) := by decide +kernel
theorem d3_30 : decode method_3_code 30 = .ok (.ireturn, 1) := by decide +kernel
theorem d3_31 : decode method_3_code 31 = .ok (.lload_n 3, 1) := by decide +kernel
theorem d3_32 : decode method_3_code 32 = .ok (.bipush 7, 2) := by decide +kernel
theorem d3_34 : decode method_3_code 34 = .ok (.iload 6, 2) := by decide +kernel
theorem d3_36 : decode method_3_code 36 = .ok (.imul, 1) := by decide +kernel
theorem d3_37 : decode method_3_code 37 = .ok (.lushr, 1) := by decide +kernel
theorem d3_38 : decode method_3_code 38 = .ok (.ldc2_w 7, 3) := by decide +kernel
theorem d3_41 : decode method_3_code 41 = .ok (.land, 1) := by decide +kernel
theorem d3_42 : decode method_3_code 42 = .ok (.l2i, 1) := by decide +kernel
theorem d3_43 : decode method_3_code 43 = .ok (.istore 7, 2) := by decide +kernel
theorem d3_45 : decode method_3_code 45 = .ok (.iload 6, 2) := by decide +kernel
theorem d3_47 : decode method_3_code 47 = .ok (.iload 5, 2) := by decide +kernel
theorem d3_49 : decode method_3_code 49 = .ok (.iconst 1, 1) := by decide +kernel
theorem d3_50 : decode method_3_code 50 = .ok (.isub, 1) := by decide +kernel
theorem d3_51 : decode method_3_code 51 = .ok (.if_icmp .ge 9, 3) := by decide +kernel
theorem d3_54 : decode method_3_code 54 = .ok (.sipush 128, 3) := by decide +kernel
theorem d3_57 : decode method_3_code 57 = .ok (.goto 4, 3) := by decide +kernel
theorem d3_60 : decode method_3_code 60 = .ok (.iconst 0, 1) := by decide +kernel
theorem d3_61 : decode method_3_code 61 = .ok (.istore 8, 2) := by decide +kernel
theorem d3_63 : decode method_3_code 63 = .ok (.aload_n 0, 1) := by decide +kernel
theorem d3_64 : decode method_3_code 64 = .ok (.iload_n 1, 1) := by decide +kernel
theorem d3_65 : decode method_3_code 65 = .ok (.baload, 1) := by decide +kernel
theorem d3_66 : decode method_3_code 66 = .ok (.iload 7, 2) := by decide +kernel
theorem d3_68 : decode method_3_code 68 = .ok (.iload 8, 2) := by decide +kernel
theorem d3_70 : decode method_3_code 70 = .ok (.ior, 1) := by decide +kernel
theorem d3_71 : decode method_3_code 71 = .ok (.i2b, 1) := by decide +kernel
theorem d3_72 : decode method_3_code 72 = .ok (.if_icmp .ne 7, 3) := by decide +kernel
theorem d3_75 : decode method_3_code 75 = .ok (.iconst 1, 1) := by decide +kernel
theorem d3_76 : decode method_3_code 76 = .ok (.goto 4, 3) := by decide +kernel
theorem d3_80 : decode method_3_code 80 = .ok (.ireturn, 1) := by decide +kernel
theorem ef_rmC (m : MethodId) (x0 : Addr) (x1 : Int32) (x2 : Int32) (x3 : Int64) (x4 : Int32) : entryFrame m #[(.ref x0), (.int x1), (.int x2), (.long x3), (.int x4)] 9 = mkF m 0 #[.val (.ref x0), .val (.int x1), .val (.int x2), .val (.long x3), .second, .val (.int x4), .unset, .unset, .unset] [] := by first | (simp [entryFrame, mkF, argsToLocals, Value.category]; done) | rfl
def QrmC (Z : State) (a1 : Addr) (q4 : Int64) (iN : Nat) (aN : Nat) (mm : Nat) (h0 : Heap) (n0 : Nat) (v : Option Value) (h : Heap) (L : List Loc) : Prop := v = some (.int 1) ∧ Fr n0 L ∧ h = h0
set_option maxRecDepth 65536 in
set_option maxHeartbeats 40000000 in
theorem rmC (l : Launch) (Z : State) (a0 : Array Value) (hw : ∀ d ∈ tables_1, d.before a0 Z = true) (ws : List Jvm.Cond) (a1 : Addr) (q4 : Int64) (iN : Nat) (aN : Nat) (mm : Nat) (h0 : Heap) (n0 : Nat) (Z0 : n0 ≤ h0.size) (b0 : iN < 20) (b1 : 1 ≤ aN) (b2 : aN ≤ 8) (b3 : mm ≤ 9) (b4 : own_u q4 / 128 ^ mm < 128) (V : own_Ar Z h0 a1 (own_out (own_u q4) aN mm)) :
    MetFree l (⟨"com/example/termite/termite/protocol/VarintsWriteUnsignedPinLaw", "cell", "([BIIJI)Z"⟩ : MethodName) (head1 (Jvm.Cond.code (⟨"com/example/termite/termite/protocol/VarintsWriteUnsignedPinLaw", "cell", "([BIIJI)Z"⟩ : MethodName) method_3_code 9 (some .boolean) :: ws) ({ frames := 0, cells := 0, slots := 0, locals := 0 } : Room)) (fun a U => a = #[(.ref a1), (.int (Int32.ofNat iN)), (.int (Int32.ofNat aN)), (.long q4), (.int (Int32.ofNat (mm + 1)))] ∧ Z.Warmed39 U.vm ∧ U.heap = h0) (fun _ _ _ _ _ => True) (fun _ U o U' => ∃ v L, o = .returned v ∧ QrmC Z a1 q4 iN aN mm h0 n0 v U'.heap L ∧ FrameEnd U o U' L ({ frames := 0, cells := 0, slots := 0, locals := 0 } : Room).cells ({ frames := 0, cells := 0, slots := 0, locals := 0 } : Room).slots) := by
  refine MetFree.of_bodySF (plainFor_of_name pn_0) hisR ?_
  intro p e s m args below meth c s₁ Bd hml0 hP hK
  obtain ⟨rfl, hZ, hh⟩ := hP
  have hx := Bd.exec
  have hby := Bd.bytes
  have hml : c.maxLocals = 9 := hml0
  have hown : s.vm.findClass "com/example/termite/termite/protocol/VarintsWriteUnsignedPinLaw" = some m.cls := findClass_of_methodNamed Bd.named
  have hnm := (name_of_methodNamed Bd.named Bd.method).1
  have X0 : Stand p l e ({ frames := 0, cells := 0, slots := 0, locals := 0 } : Room) s m #[(.ref a1), (.int (Int32.ofNat iN)), (.int (Int32.ofNat aN)), (.long q4), (.int (Int32.ofNat (mm + 1)))] below meth c s₁ [] 0 0 := Stand.of_body Bd
  have e0 : s₁.heap = h0 := by rw [← hh, Bd.state]; rfl
  have N0 := Fr.nil n0
  have pre0 : ∀ t_, Steps p.tables e below (s₁.setTop (mkF m 0 #[.val (.ref a1), .val (.int (Int32.ofNat iN)), .val (.int (Int32.ofNat aN)), .val (.long q4), .second, .val (.int (Int32.ofNat (mm + 1))), .unset, .unset, .unset] [])) t_ → Steps p.tables e below (s₁.setTop (entryFrame m #[(.ref a1), (.int (Int32.ofNat iN)), (.int (Int32.ofNat aN)), (.long q4), (.int (Int32.ofNat (mm + 1)))] 9)) t_ := fun t_ k_ => castTop (ef_rmC m a1 ((Int32.ofNat iN)) ((Int32.ofNat aN)) q4 ((Int32.ofNat (mm + 1)))) k_
  obtain ⟨cl, Ar, Sz, Hs⟩ := V
  have hin := own_ofin (a := iN) Sz b0
  have hat := Hs iN b0
  have hat2 : cl.slots[(Int32.ofNat iN).toNatClampNeg]? = some (.int (own_out (own_u q4) aN mm iN)) := by rw [own_ofc (by omega)]; exact hat
  have pre101 : ∀ t_, Steps p.tables e below (s₁.setTop (mkF m 7 #[.val (.ref a1), .val (.int (Int32.ofNat iN)), .val (.int (Int32.ofNat aN)), .val (.long q4), .second, .val (.int (Int32.ofNat (mm + 1))), .val (.int ((Int32.ofNat iN) - (Int32.ofNat aN))), .unset, .unset] [(.int ((Int32.ofNat iN) - (Int32.ofNat aN)))])) t_ → Steps p.tables e below (s₁.setTop (entryFrame m #[(.ref a1), (.int (Int32.ofNat iN)), (.int (Int32.ofNat aN)), (.long q4), (.int (Int32.ofNat (mm + 1)))] 9)) t_ := fun t_ k_ => pre0 _ (by
    show Steps p.tables e below (s₁.setTop (mkF m 0 #[.val (.ref a1), .val (.int (Int32.ofNat iN)), .val (.int (Int32.ofNat aN)), .val (.long q4), .second, .val (.int (Int32.ofNat (mm + 1))), .unset, .unset, .unset] [])) _
    refine XS.iloadN X0.here hx rfl (hb hby d3_0) rfl ?_
    show Steps p.tables e below (s₁.setTop (mkF m 1 #[.val (.ref a1), .val (.int (Int32.ofNat iN)), .val (.int (Int32.ofNat aN)), .val (.long q4), .second, .val (.int (Int32.ofNat (mm + 1))), .unset, .unset, .unset] [(.int (Int32.ofNat iN))])) _
    refine XS.iloadN X0.here hx rfl (hb hby d3_1) rfl ?_
    show Steps p.tables e below (s₁.setTop (mkF m 2 #[.val (.ref a1), .val (.int (Int32.ofNat iN)), .val (.int (Int32.ofNat aN)), .val (.long q4), .second, .val (.int (Int32.ofNat (mm + 1))), .unset, .unset, .unset] [(.int (Int32.ofNat aN)), (.int (Int32.ofNat iN))])) _
    refine XS.isub X0.here hx rfl (hb hby d3_2) rfl ?_
    show Steps p.tables e below (s₁.setTop (mkF m 3 #[.val (.ref a1), .val (.int (Int32.ofNat iN)), .val (.int (Int32.ofNat aN)), .val (.long q4), .second, .val (.int (Int32.ofNat (mm + 1))), .unset, .unset, .unset] [(.int ((Int32.ofNat iN) - (Int32.ofNat aN)))])) _
    refine XS.istore X0.here hx rfl (hb hby d3_3) rfl (l' := #[.val (.ref a1), .val (.int (Int32.ofNat iN)), .val (.int (Int32.ofNat aN)), .val (.long q4), .second, .val (.int (Int32.ofNat (mm + 1))), .val (.int ((Int32.ofNat iN) - (Int32.ofNat aN))), .unset, .unset]) rfl ?_
    show Steps p.tables e below (s₁.setTop (mkF m 5 #[.val (.ref a1), .val (.int (Int32.ofNat iN)), .val (.int (Int32.ofNat aN)), .val (.long q4), .second, .val (.int (Int32.ofNat (mm + 1))), .val (.int ((Int32.ofNat iN) - (Int32.ofNat aN))), .unset, .unset] [])) _
    refine XS.iload X0.here hx rfl (hb hby d3_5) rfl ?_
    exact k_)
  by_cases h1 : iN < aN
  · skip
    have pre102 : ∀ t_, Steps p.tables e below (s₁.setTop (mkF m 30 #[.val (.ref a1), .val (.int (Int32.ofNat iN)), .val (.int (Int32.ofNat aN)), .val (.long q4), .second, .val (.int (Int32.ofNat (mm + 1))), .val (.int ((Int32.ofNat iN) - (Int32.ofNat aN))), .unset, .unset] [(.int (1 : Int32))])) t_ → Steps p.tables e below (s₁.setTop (entryFrame m #[(.ref a1), (.int (Int32.ofNat iN)), (.int (Int32.ofNat aN)), (.long q4), (.int (Int32.ofNat (mm + 1)))] 9)) t_ := fun t_ k_ => pre101 _ (by
      show Steps p.tables e below (s₁.setTop (mkF m 7 #[.val (.ref a1), .val (.int (Int32.ofNat iN)), .val (.int (Int32.ofNat aN)), .val (.long q4), .second, .val (.int (Int32.ofNat (mm + 1))), .val (.int ((Int32.ofNat iN) - (Int32.ofNat aN))), .unset, .unset] [(.int ((Int32.ofNat iN) - (Int32.ofNat aN)))])) _
      refine XS.ifYes X0.here hx rfl (pc0 := 7) (pc' := 17) rfl (hb hby d3_7) rfl ((if0 _ _).trans (tlt (own_kneg h1 b2)).1) (by decide) (by decide) ?_
      show Steps p.tables e below (s₁.setTop (mkF m 17 #[.val (.ref a1), .val (.int (Int32.ofNat iN)), .val (.int (Int32.ofNat aN)), .val (.long q4), .second, .val (.int (Int32.ofNat (mm + 1))), .val (.int ((Int32.ofNat iN) - (Int32.ofNat aN))), .unset, .unset] [])) _
      refine XS.aloadN X0.here hx rfl (hb hby d3_17) rfl rfl ?_
      show Steps p.tables e below (s₁.setTop (mkF m 18 #[.val (.ref a1), .val (.int (Int32.ofNat iN)), .val (.int (Int32.ofNat aN)), .val (.long q4), .second, .val (.int (Int32.ofNat (mm + 1))), .val (.int ((Int32.ofNat iN) - (Int32.ofNat aN))), .unset, .unset] [(.ref a1)])) _
      refine XS.iloadN X0.here hx rfl (hb hby d3_18) rfl ?_
      show Steps p.tables e below (s₁.setTop (mkF m 19 #[.val (.ref a1), .val (.int (Int32.ofNat iN)), .val (.int (Int32.ofNat aN)), .val (.long q4), .second, .val (.int (Int32.ofNat (mm + 1))), .val (.int ((Int32.ofNat iN) - (Int32.ofNat aN))), .unset, .unset] [(.int (Int32.ofNat iN)), (.ref a1)])) _
      refine X0.baloadBytes hx (j := (Int32.ofNat iN)) (v := (.int (own_out (own_u q4) aN mm iN))) (by rw [e0]; exact Ar.1) (State.isArrayOf_alike hZ.alike Ar.2.1) Ar.2.2 hin hat2 (g := (mkF m 19 #[.val (.ref a1), .val (.int (Int32.ofNat iN)), .val (.int (Int32.ofNat aN)), .val (.long q4), .second, .val (.int (Int32.ofNat (mm + 1))), .val (.int ((Int32.ofNat iN) - (Int32.ofNat aN))), .unset, .unset] [(.int (Int32.ofNat iN)), (.ref a1)])) rfl rfl (hb hby d3_19) _ ?_
      show Steps p.tables e below (s₁.setTop (mkF m 20 #[.val (.ref a1), .val (.int (Int32.ofNat iN)), .val (.int (Int32.ofNat aN)), .val (.long q4), .second, .val (.int (Int32.ofNat (mm + 1))), .val (.int ((Int32.ofNat iN) - (Int32.ofNat aN))), .unset, .unset] [(.int (own_out (own_u q4) aN mm iN))])) _
      refine XS.bipush X0.here hx rfl (hb hby d3_20) ?_
      show Steps p.tables e below (s₁.setTop (mkF m 22 #[.val (.ref a1), .val (.int (Int32.ofNat iN)), .val (.int (Int32.ofNat aN)), .val (.long q4), .second, .val (.int (Int32.ofNat (mm + 1))), .val (.int ((Int32.ofNat iN) - (Int32.ofNat aN))), .unset, .unset] [(.int (90 : Int32)), (.int (own_out (own_u q4) aN mm iN))])) _
      refine XS.icmpNo X0.here hx rfl (hb hby d3_22) rfl (teq (by rw [own_out, if_pos h1] : (own_out (own_u q4) aN mm iN) = (90 : Int32))).2 ?_
      show Steps p.tables e below (s₁.setTop (mkF m 25 #[.val (.ref a1), .val (.int (Int32.ofNat iN)), .val (.int (Int32.ofNat aN)), .val (.long q4), .second, .val (.int (Int32.ofNat (mm + 1))), .val (.int ((Int32.ofNat iN) - (Int32.ofNat aN))), .unset, .unset] [])) _
      refine XS.iconst X0.here hx rfl (hb hby d3_25) ?_
      show Steps p.tables e below (s₁.setTop (mkF m 26 #[.val (.ref a1), .val (.int (Int32.ofNat iN)), .val (.int (Int32.ofNat aN)), .val (.long q4), .second, .val (.int (Int32.ofNat (mm + 1))), .val (.int ((Int32.ofNat iN) - (Int32.ofNat aN))), .unset, .unset] [(.int (1 : Int32))])) _
      refine XS.goto X0.here hx rfl (pc0 := 26) (pc' := 30) rfl (hb hby d3_26) (by decide) (by decide) ?_
      exact k_)
    obtain ⟨fs, hr, hrun, hended, hW, hsame⟩ := X0.leave (v := some (.int (1 : Int32))) (fun h => by rw [Bd.returns] at h; cases h)
    refine ⟨_, _, pre102 _ ?_, hrun, hended, _, _, rfl, ?_, ⟨_, rfl⟩, hW, hsame.mono (by decide) (by decide)⟩
    · show Steps p.tables e below (s₁.setTop (mkF m 30 #[.val (.ref a1), .val (.int (Int32.ofNat iN)), .val (.int (Int32.ofNat aN)), .val (.long q4), .second, .val (.int (Int32.ofNat (mm + 1))), .val (.int ((Int32.ofNat iN) - (Int32.ofNat aN))), .unset, .unset] [(.int (1 : Int32))])) _
      exact retN X0 hx (t := .boolean) Bd.returns (by simp) (hb hby d3_30) hr
    · show QrmC Z a1 q4 iN aN mm h0 n0 _ s₁.heap _
      rw [e0]
      exact ⟨rfl, N0, rfl⟩
  · skip
    have ek : ((Int32.ofNat iN) - (Int32.ofNat aN)) = Int32.ofNat (iN - aN) := own_ksub (by omega) b0
    have pre103 : ∀ t_, Steps p.tables e below (s₁.setTop (mkF m 14 #[.val (.ref a1), .val (.int (Int32.ofNat iN)), .val (.int (Int32.ofNat aN)), .val (.long q4), .second, .val (.int (Int32.ofNat (mm + 1))), .val (.int ((Int32.ofNat iN) - (Int32.ofNat aN))), .unset, .unset] [(.int (Int32.ofNat (mm + 1))), (.int ((Int32.ofNat iN) - (Int32.ofNat aN)))])) t_ → Steps p.tables e below (s₁.setTop (entryFrame m #[(.ref a1), (.int (Int32.ofNat iN)), (.int (Int32.ofNat aN)), (.long q4), (.int (Int32.ofNat (mm + 1)))] 9)) t_ := fun t_ k_ => pre101 _ (by
      show Steps p.tables e below (s₁.setTop (mkF m 7 #[.val (.ref a1), .val (.int (Int32.ofNat iN)), .val (.int (Int32.ofNat aN)), .val (.long q4), .second, .val (.int (Int32.ofNat (mm + 1))), .val (.int ((Int32.ofNat iN) - (Int32.ofNat aN))), .unset, .unset] [(.int ((Int32.ofNat iN) - (Int32.ofNat aN)))])) _
      refine XS.ifNo X0.here hx rfl (hb hby d3_7) rfl ((if0 _ _).trans (flt (by rw [ek]; exact own_ofn0 (by omega))).1) ?_
      show Steps p.tables e below (s₁.setTop (mkF m 10 #[.val (.ref a1), .val (.int (Int32.ofNat iN)), .val (.int (Int32.ofNat aN)), .val (.long q4), .second, .val (.int (Int32.ofNat (mm + 1))), .val (.int ((Int32.ofNat iN) - (Int32.ofNat aN))), .unset, .unset] [])) _
      refine XS.iload X0.here hx rfl (hb hby d3_10) rfl ?_
      show Steps p.tables e below (s₁.setTop (mkF m 12 #[.val (.ref a1), .val (.int (Int32.ofNat iN)), .val (.int (Int32.ofNat aN)), .val (.long q4), .second, .val (.int (Int32.ofNat (mm + 1))), .val (.int ((Int32.ofNat iN) - (Int32.ofNat aN))), .unset, .unset] [(.int ((Int32.ofNat iN) - (Int32.ofNat aN)))])) _
      refine XS.iload X0.here hx rfl (hb hby d3_12) rfl ?_
      exact k_)
    by_cases h2 : iN - aN < mm + 1
    · skip
      have pre104 : ∀ t_, Steps p.tables e below (s₁.setTop (mkF m 51 #[.val (.ref a1), .val (.int (Int32.ofNat iN)), .val (.int (Int32.ofNat aN)), .val (.long q4), .second, .val (.int (Int32.ofNat (mm + 1))), .val (.int ((Int32.ofNat iN) - (Int32.ofNat aN))), .val (.int ((((q4.toUInt64 >>> (((7 : Int32) * ((Int32.ofNat iN) - (Int32.ofNat aN))) &&& 0x3f).toInt64.toUInt64).toInt64) &&& (127 : Int64)).toInt32)), .unset] [(.int ((Int32.ofNat (mm + 1)) - (1 : Int32))), (.int ((Int32.ofNat iN) - (Int32.ofNat aN)))])) t_ → Steps p.tables e below (s₁.setTop (entryFrame m #[(.ref a1), (.int (Int32.ofNat iN)), (.int (Int32.ofNat aN)), (.long q4), (.int (Int32.ofNat (mm + 1)))] 9)) t_ := fun t_ k_ => pre103 _ (by
        show Steps p.tables e below (s₁.setTop (mkF m 14 #[.val (.ref a1), .val (.int (Int32.ofNat iN)), .val (.int (Int32.ofNat aN)), .val (.long q4), .second, .val (.int (Int32.ofNat (mm + 1))), .val (.int ((Int32.ofNat iN) - (Int32.ofNat aN))), .unset, .unset] [(.int (Int32.ofNat (mm + 1))), (.int ((Int32.ofNat iN) - (Int32.ofNat aN)))])) _
        refine XS.icmpYes X0.here hx rfl (pc0 := 14) (pc' := 31) rfl (hb hby d3_14) rfl (tlt (by rw [ek]; exact (own_oflt (by omega) (by omega)).mpr h2)).1 (by decide) (by decide) ?_
        show Steps p.tables e below (s₁.setTop (mkF m 31 #[.val (.ref a1), .val (.int (Int32.ofNat iN)), .val (.int (Int32.ofNat aN)), .val (.long q4), .second, .val (.int (Int32.ofNat (mm + 1))), .val (.int ((Int32.ofNat iN) - (Int32.ofNat aN))), .unset, .unset] [])) _
        refine XS.lloadN X0.here hx rfl (hb hby d3_31) rfl ?_
        show Steps p.tables e below (s₁.setTop (mkF m 32 #[.val (.ref a1), .val (.int (Int32.ofNat iN)), .val (.int (Int32.ofNat aN)), .val (.long q4), .second, .val (.int (Int32.ofNat (mm + 1))), .val (.int ((Int32.ofNat iN) - (Int32.ofNat aN))), .unset, .unset] [(.long q4)])) _
        refine XS.bipush X0.here hx rfl (hb hby d3_32) ?_
        show Steps p.tables e below (s₁.setTop (mkF m 34 #[.val (.ref a1), .val (.int (Int32.ofNat iN)), .val (.int (Int32.ofNat aN)), .val (.long q4), .second, .val (.int (Int32.ofNat (mm + 1))), .val (.int ((Int32.ofNat iN) - (Int32.ofNat aN))), .unset, .unset] [(.int (7 : Int32)), (.long q4)])) _
        refine XS.iload X0.here hx rfl (hb hby d3_34) rfl ?_
        show Steps p.tables e below (s₁.setTop (mkF m 36 #[.val (.ref a1), .val (.int (Int32.ofNat iN)), .val (.int (Int32.ofNat aN)), .val (.long q4), .second, .val (.int (Int32.ofNat (mm + 1))), .val (.int ((Int32.ofNat iN) - (Int32.ofNat aN))), .unset, .unset] [(.int ((Int32.ofNat iN) - (Int32.ofNat aN))), (.int (7 : Int32)), (.long q4)])) _
        refine XS.imul X0.here hx rfl (hb hby d3_36) rfl ?_
        show Steps p.tables e below (s₁.setTop (mkF m 37 #[.val (.ref a1), .val (.int (Int32.ofNat iN)), .val (.int (Int32.ofNat aN)), .val (.long q4), .second, .val (.int (Int32.ofNat (mm + 1))), .val (.int ((Int32.ofNat iN) - (Int32.ofNat aN))), .unset, .unset] [(.int ((7 : Int32) * ((Int32.ofNat iN) - (Int32.ofNat aN)))), (.long q4)])) _
        refine XS.lushr X0.here hx rfl (hb hby d3_37) rfl ?_
        show Steps p.tables e below (s₁.setTop (mkF m 38 #[.val (.ref a1), .val (.int (Int32.ofNat iN)), .val (.int (Int32.ofNat aN)), .val (.long q4), .second, .val (.int (Int32.ofNat (mm + 1))), .val (.int ((Int32.ofNat iN) - (Int32.ofNat aN))), .unset, .unset] [(.long ((q4.toUInt64 >>> (((7 : Int32) * ((Int32.ofNat iN) - (Int32.ofNat aN))) &&& 0x3f).toInt64.toUInt64).toInt64))])) _
        refine X0.ldc2Long hx hown (mvT hZ (hw _ (List.mem_of_getElem? (i := 13) rfl))) (g := (mkF m 38 #[.val (.ref a1), .val (.int (Int32.ofNat iN)), .val (.int (Int32.ofNat aN)), .val (.long q4), .second, .val (.int (Int32.ofNat (mm + 1))), .val (.int ((Int32.ofNat iN) - (Int32.ofNat aN))), .unset, .unset] [(.long ((q4.toUInt64 >>> (((7 : Int32) * ((Int32.ofNat iN) - (Int32.ofNat aN))) &&& 0x3f).toInt64.toUInt64).toInt64))])) rfl (hb hby d3_38) _ ?_
        show Steps p.tables e below (s₁.setTop (mkF m 41 #[.val (.ref a1), .val (.int (Int32.ofNat iN)), .val (.int (Int32.ofNat aN)), .val (.long q4), .second, .val (.int (Int32.ofNat (mm + 1))), .val (.int ((Int32.ofNat iN) - (Int32.ofNat aN))), .unset, .unset] [(.long (127 : Int64)), (.long ((q4.toUInt64 >>> (((7 : Int32) * ((Int32.ofNat iN) - (Int32.ofNat aN))) &&& 0x3f).toInt64.toUInt64).toInt64))])) _
        refine XS.land X0.here hx rfl (hb hby d3_41) rfl ?_
        show Steps p.tables e below (s₁.setTop (mkF m 42 #[.val (.ref a1), .val (.int (Int32.ofNat iN)), .val (.int (Int32.ofNat aN)), .val (.long q4), .second, .val (.int (Int32.ofNat (mm + 1))), .val (.int ((Int32.ofNat iN) - (Int32.ofNat aN))), .unset, .unset] [(.long (((q4.toUInt64 >>> (((7 : Int32) * ((Int32.ofNat iN) - (Int32.ofNat aN))) &&& 0x3f).toInt64.toUInt64).toInt64) &&& (127 : Int64)))])) _
        refine XS.l2i X0.here hx rfl (hb hby d3_42) rfl ?_
        show Steps p.tables e below (s₁.setTop (mkF m 43 #[.val (.ref a1), .val (.int (Int32.ofNat iN)), .val (.int (Int32.ofNat aN)), .val (.long q4), .second, .val (.int (Int32.ofNat (mm + 1))), .val (.int ((Int32.ofNat iN) - (Int32.ofNat aN))), .unset, .unset] [(.int ((((q4.toUInt64 >>> (((7 : Int32) * ((Int32.ofNat iN) - (Int32.ofNat aN))) &&& 0x3f).toInt64.toUInt64).toInt64) &&& (127 : Int64)).toInt32))])) _
        refine XS.istore X0.here hx rfl (hb hby d3_43) rfl (l' := #[.val (.ref a1), .val (.int (Int32.ofNat iN)), .val (.int (Int32.ofNat aN)), .val (.long q4), .second, .val (.int (Int32.ofNat (mm + 1))), .val (.int ((Int32.ofNat iN) - (Int32.ofNat aN))), .val (.int ((((q4.toUInt64 >>> (((7 : Int32) * ((Int32.ofNat iN) - (Int32.ofNat aN))) &&& 0x3f).toInt64.toUInt64).toInt64) &&& (127 : Int64)).toInt32)), .unset]) rfl ?_
        show Steps p.tables e below (s₁.setTop (mkF m 45 #[.val (.ref a1), .val (.int (Int32.ofNat iN)), .val (.int (Int32.ofNat aN)), .val (.long q4), .second, .val (.int (Int32.ofNat (mm + 1))), .val (.int ((Int32.ofNat iN) - (Int32.ofNat aN))), .val (.int ((((q4.toUInt64 >>> (((7 : Int32) * ((Int32.ofNat iN) - (Int32.ofNat aN))) &&& 0x3f).toInt64.toUInt64).toInt64) &&& (127 : Int64)).toInt32)), .unset] [])) _
        refine XS.iload X0.here hx rfl (hb hby d3_45) rfl ?_
        show Steps p.tables e below (s₁.setTop (mkF m 47 #[.val (.ref a1), .val (.int (Int32.ofNat iN)), .val (.int (Int32.ofNat aN)), .val (.long q4), .second, .val (.int (Int32.ofNat (mm + 1))), .val (.int ((Int32.ofNat iN) - (Int32.ofNat aN))), .val (.int ((((q4.toUInt64 >>> (((7 : Int32) * ((Int32.ofNat iN) - (Int32.ofNat aN))) &&& 0x3f).toInt64.toUInt64).toInt64) &&& (127 : Int64)).toInt32)), .unset] [(.int ((Int32.ofNat iN) - (Int32.ofNat aN)))])) _
        refine XS.iload X0.here hx rfl (hb hby d3_47) rfl ?_
        show Steps p.tables e below (s₁.setTop (mkF m 49 #[.val (.ref a1), .val (.int (Int32.ofNat iN)), .val (.int (Int32.ofNat aN)), .val (.long q4), .second, .val (.int (Int32.ofNat (mm + 1))), .val (.int ((Int32.ofNat iN) - (Int32.ofNat aN))), .val (.int ((((q4.toUInt64 >>> (((7 : Int32) * ((Int32.ofNat iN) - (Int32.ofNat aN))) &&& 0x3f).toInt64.toUInt64).toInt64) &&& (127 : Int64)).toInt32)), .unset] [(.int (Int32.ofNat (mm + 1))), (.int ((Int32.ofNat iN) - (Int32.ofNat aN)))])) _
        refine XS.iconst X0.here hx rfl (hb hby d3_49) ?_
        show Steps p.tables e below (s₁.setTop (mkF m 50 #[.val (.ref a1), .val (.int (Int32.ofNat iN)), .val (.int (Int32.ofNat aN)), .val (.long q4), .second, .val (.int (Int32.ofNat (mm + 1))), .val (.int ((Int32.ofNat iN) - (Int32.ofNat aN))), .val (.int ((((q4.toUInt64 >>> (((7 : Int32) * ((Int32.ofNat iN) - (Int32.ofNat aN))) &&& 0x3f).toInt64.toUInt64).toInt64) &&& (127 : Int64)).toInt32)), .unset] [(.int (1 : Int32)), (.int (Int32.ofNat (mm + 1))), (.int ((Int32.ofNat iN) - (Int32.ofNat aN)))])) _
        refine XS.isub X0.here hx rfl (hb hby d3_50) rfl ?_
        exact k_)
      have eY : own_u ((q4.toUInt64 >>> (((7 : Int32) * ((Int32.ofNat iN) - (Int32.ofNat aN))) &&& 0x3f).toInt64.toUInt64).toInt64) = own_u q4 / 128 ^ (iN - aN) := by rw [ek]; exact own_shk q4 (iN - aN) (by omega)
      have eL := own_low eY
      by_cases h3 : iN - aN < mm
      · skip
        have pre105 : ∀ t_, Steps p.tables e below (s₁.setTop (mkF m 80 #[.val (.ref a1), .val (.int (Int32.ofNat iN)), .val (.int (Int32.ofNat aN)), .val (.long q4), .second, .val (.int (Int32.ofNat (mm + 1))), .val (.int ((Int32.ofNat iN) - (Int32.ofNat aN))), .val (.int ((((q4.toUInt64 >>> (((7 : Int32) * ((Int32.ofNat iN) - (Int32.ofNat aN))) &&& 0x3f).toInt64.toUInt64).toInt64) &&& (127 : Int64)).toInt32)), .val (.int (128 : Int32))] [(.int (1 : Int32))])) t_ → Steps p.tables e below (s₁.setTop (entryFrame m #[(.ref a1), (.int (Int32.ofNat iN)), (.int (Int32.ofNat aN)), (.long q4), (.int (Int32.ofNat (mm + 1)))] 9)) t_ := fun t_ k_ => pre104 _ (by
          show Steps p.tables e below (s₁.setTop (mkF m 51 #[.val (.ref a1), .val (.int (Int32.ofNat iN)), .val (.int (Int32.ofNat aN)), .val (.long q4), .second, .val (.int (Int32.ofNat (mm + 1))), .val (.int ((Int32.ofNat iN) - (Int32.ofNat aN))), .val (.int ((((q4.toUInt64 >>> (((7 : Int32) * ((Int32.ofNat iN) - (Int32.ofNat aN))) &&& 0x3f).toInt64.toUInt64).toInt64) &&& (127 : Int64)).toInt32)), .unset] [(.int ((Int32.ofNat (mm + 1)) - (1 : Int32))), (.int ((Int32.ofNat iN) - (Int32.ofNat aN)))])) _
          refine XS.icmpNo X0.here hx rfl (hb hby d3_51) rfl (tlt (by rw [ek, own_nm1]; exact (own_oflt (by omega) (by omega)).mpr h3)).2.1 ?_
          show Steps p.tables e below (s₁.setTop (mkF m 54 #[.val (.ref a1), .val (.int (Int32.ofNat iN)), .val (.int (Int32.ofNat aN)), .val (.long q4), .second, .val (.int (Int32.ofNat (mm + 1))), .val (.int ((Int32.ofNat iN) - (Int32.ofNat aN))), .val (.int ((((q4.toUInt64 >>> (((7 : Int32) * ((Int32.ofNat iN) - (Int32.ofNat aN))) &&& 0x3f).toInt64.toUInt64).toInt64) &&& (127 : Int64)).toInt32)), .unset] [])) _
          refine XS.sipush X0.here hx rfl (hb hby d3_54) ?_
          show Steps p.tables e below (s₁.setTop (mkF m 57 #[.val (.ref a1), .val (.int (Int32.ofNat iN)), .val (.int (Int32.ofNat aN)), .val (.long q4), .second, .val (.int (Int32.ofNat (mm + 1))), .val (.int ((Int32.ofNat iN) - (Int32.ofNat aN))), .val (.int ((((q4.toUInt64 >>> (((7 : Int32) * ((Int32.ofNat iN) - (Int32.ofNat aN))) &&& 0x3f).toInt64.toUInt64).toInt64) &&& (127 : Int64)).toInt32)), .unset] [(.int (128 : Int32))])) _
          refine XS.goto X0.here hx rfl (pc0 := 57) (pc' := 61) rfl (hb hby d3_57) (by decide) (by decide) ?_
          show Steps p.tables e below (s₁.setTop (mkF m 61 #[.val (.ref a1), .val (.int (Int32.ofNat iN)), .val (.int (Int32.ofNat aN)), .val (.long q4), .second, .val (.int (Int32.ofNat (mm + 1))), .val (.int ((Int32.ofNat iN) - (Int32.ofNat aN))), .val (.int ((((q4.toUInt64 >>> (((7 : Int32) * ((Int32.ofNat iN) - (Int32.ofNat aN))) &&& 0x3f).toInt64.toUInt64).toInt64) &&& (127 : Int64)).toInt32)), .unset] [(.int (128 : Int32))])) _
          refine XS.istore X0.here hx rfl (hb hby d3_61) rfl (l' := #[.val (.ref a1), .val (.int (Int32.ofNat iN)), .val (.int (Int32.ofNat aN)), .val (.long q4), .second, .val (.int (Int32.ofNat (mm + 1))), .val (.int ((Int32.ofNat iN) - (Int32.ofNat aN))), .val (.int ((((q4.toUInt64 >>> (((7 : Int32) * ((Int32.ofNat iN) - (Int32.ofNat aN))) &&& 0x3f).toInt64.toUInt64).toInt64) &&& (127 : Int64)).toInt32)), .val (.int (128 : Int32))]) rfl ?_
          show Steps p.tables e below (s₁.setTop (mkF m 63 #[.val (.ref a1), .val (.int (Int32.ofNat iN)), .val (.int (Int32.ofNat aN)), .val (.long q4), .second, .val (.int (Int32.ofNat (mm + 1))), .val (.int ((Int32.ofNat iN) - (Int32.ofNat aN))), .val (.int ((((q4.toUInt64 >>> (((7 : Int32) * ((Int32.ofNat iN) - (Int32.ofNat aN))) &&& 0x3f).toInt64.toUInt64).toInt64) &&& (127 : Int64)).toInt32)), .val (.int (128 : Int32))] [])) _
          refine XS.aloadN X0.here hx rfl (hb hby d3_63) rfl rfl ?_
          show Steps p.tables e below (s₁.setTop (mkF m 64 #[.val (.ref a1), .val (.int (Int32.ofNat iN)), .val (.int (Int32.ofNat aN)), .val (.long q4), .second, .val (.int (Int32.ofNat (mm + 1))), .val (.int ((Int32.ofNat iN) - (Int32.ofNat aN))), .val (.int ((((q4.toUInt64 >>> (((7 : Int32) * ((Int32.ofNat iN) - (Int32.ofNat aN))) &&& 0x3f).toInt64.toUInt64).toInt64) &&& (127 : Int64)).toInt32)), .val (.int (128 : Int32))] [(.ref a1)])) _
          refine XS.iloadN X0.here hx rfl (hb hby d3_64) rfl ?_
          show Steps p.tables e below (s₁.setTop (mkF m 65 #[.val (.ref a1), .val (.int (Int32.ofNat iN)), .val (.int (Int32.ofNat aN)), .val (.long q4), .second, .val (.int (Int32.ofNat (mm + 1))), .val (.int ((Int32.ofNat iN) - (Int32.ofNat aN))), .val (.int ((((q4.toUInt64 >>> (((7 : Int32) * ((Int32.ofNat iN) - (Int32.ofNat aN))) &&& 0x3f).toInt64.toUInt64).toInt64) &&& (127 : Int64)).toInt32)), .val (.int (128 : Int32))] [(.int (Int32.ofNat iN)), (.ref a1)])) _
          refine X0.baloadBytes hx (j := (Int32.ofNat iN)) (v := (.int (own_out (own_u q4) aN mm iN))) (by rw [e0]; exact Ar.1) (State.isArrayOf_alike hZ.alike Ar.2.1) Ar.2.2 hin hat2 (g := (mkF m 65 #[.val (.ref a1), .val (.int (Int32.ofNat iN)), .val (.int (Int32.ofNat aN)), .val (.long q4), .second, .val (.int (Int32.ofNat (mm + 1))), .val (.int ((Int32.ofNat iN) - (Int32.ofNat aN))), .val (.int ((((q4.toUInt64 >>> (((7 : Int32) * ((Int32.ofNat iN) - (Int32.ofNat aN))) &&& 0x3f).toInt64.toUInt64).toInt64) &&& (127 : Int64)).toInt32)), .val (.int (128 : Int32))] [(.int (Int32.ofNat iN)), (.ref a1)])) rfl rfl (hb hby d3_65) _ ?_
          show Steps p.tables e below (s₁.setTop (mkF m 66 #[.val (.ref a1), .val (.int (Int32.ofNat iN)), .val (.int (Int32.ofNat aN)), .val (.long q4), .second, .val (.int (Int32.ofNat (mm + 1))), .val (.int ((Int32.ofNat iN) - (Int32.ofNat aN))), .val (.int ((((q4.toUInt64 >>> (((7 : Int32) * ((Int32.ofNat iN) - (Int32.ofNat aN))) &&& 0x3f).toInt64.toUInt64).toInt64) &&& (127 : Int64)).toInt32)), .val (.int (128 : Int32))] [(.int (own_out (own_u q4) aN mm iN))])) _
          refine XS.iload X0.here hx rfl (hb hby d3_66) rfl ?_
          show Steps p.tables e below (s₁.setTop (mkF m 68 #[.val (.ref a1), .val (.int (Int32.ofNat iN)), .val (.int (Int32.ofNat aN)), .val (.long q4), .second, .val (.int (Int32.ofNat (mm + 1))), .val (.int ((Int32.ofNat iN) - (Int32.ofNat aN))), .val (.int ((((q4.toUInt64 >>> (((7 : Int32) * ((Int32.ofNat iN) - (Int32.ofNat aN))) &&& 0x3f).toInt64.toUInt64).toInt64) &&& (127 : Int64)).toInt32)), .val (.int (128 : Int32))] [(.int ((((q4.toUInt64 >>> (((7 : Int32) * ((Int32.ofNat iN) - (Int32.ofNat aN))) &&& 0x3f).toInt64.toUInt64).toInt64) &&& (127 : Int64)).toInt32)), (.int (own_out (own_u q4) aN mm iN))])) _
          refine XS.iload X0.here hx rfl (hb hby d3_68) rfl ?_
          show Steps p.tables e below (s₁.setTop (mkF m 70 #[.val (.ref a1), .val (.int (Int32.ofNat iN)), .val (.int (Int32.ofNat aN)), .val (.long q4), .second, .val (.int (Int32.ofNat (mm + 1))), .val (.int ((Int32.ofNat iN) - (Int32.ofNat aN))), .val (.int ((((q4.toUInt64 >>> (((7 : Int32) * ((Int32.ofNat iN) - (Int32.ofNat aN))) &&& 0x3f).toInt64.toUInt64).toInt64) &&& (127 : Int64)).toInt32)), .val (.int (128 : Int32))] [(.int (128 : Int32)), (.int ((((q4.toUInt64 >>> (((7 : Int32) * ((Int32.ofNat iN) - (Int32.ofNat aN))) &&& 0x3f).toInt64.toUInt64).toInt64) &&& (127 : Int64)).toInt32)), (.int (own_out (own_u q4) aN mm iN))])) _
          refine XS.ior X0.here hx rfl (hb hby d3_70) rfl ?_
          show Steps p.tables e below (s₁.setTop (mkF m 71 #[.val (.ref a1), .val (.int (Int32.ofNat iN)), .val (.int (Int32.ofNat aN)), .val (.long q4), .second, .val (.int (Int32.ofNat (mm + 1))), .val (.int ((Int32.ofNat iN) - (Int32.ofNat aN))), .val (.int ((((q4.toUInt64 >>> (((7 : Int32) * ((Int32.ofNat iN) - (Int32.ofNat aN))) &&& 0x3f).toInt64.toUInt64).toInt64) &&& (127 : Int64)).toInt32)), .val (.int (128 : Int32))] [(.int (((((q4.toUInt64 >>> (((7 : Int32) * ((Int32.ofNat iN) - (Int32.ofNat aN))) &&& 0x3f).toInt64.toUInt64).toInt64) &&& (127 : Int64)).toInt32) ||| (128 : Int32))), (.int (own_out (own_u q4) aN mm iN))])) _
          refine XS.i2b X0.here hx rfl (hb hby d3_71) rfl ?_
          show Steps p.tables e below (s₁.setTop (mkF m 72 #[.val (.ref a1), .val (.int (Int32.ofNat iN)), .val (.int (Int32.ofNat aN)), .val (.long q4), .second, .val (.int (Int32.ofNat (mm + 1))), .val (.int ((Int32.ofNat iN) - (Int32.ofNat aN))), .val (.int ((((q4.toUInt64 >>> (((7 : Int32) * ((Int32.ofNat iN) - (Int32.ofNat aN))) &&& 0x3f).toInt64.toUInt64).toInt64) &&& (127 : Int64)).toInt32)), .val (.int (128 : Int32))] [(.int ((((((q4.toUInt64 >>> (((7 : Int32) * ((Int32.ofNat iN) - (Int32.ofNat aN))) &&& 0x3f).toInt64.toUInt64).toInt64) &&& (127 : Int64)).toInt32) ||| (128 : Int32)).toInt8.toInt32)), (.int (own_out (own_u q4) aN mm iN))])) _
          refine XS.icmpNo X0.here hx rfl (hb hby d3_72) rfl (teq (by rw [own_r1 eL, own_out, if_neg h1, if_pos (by omega)])).2 ?_
          show Steps p.tables e below (s₁.setTop (mkF m 75 #[.val (.ref a1), .val (.int (Int32.ofNat iN)), .val (.int (Int32.ofNat aN)), .val (.long q4), .second, .val (.int (Int32.ofNat (mm + 1))), .val (.int ((Int32.ofNat iN) - (Int32.ofNat aN))), .val (.int ((((q4.toUInt64 >>> (((7 : Int32) * ((Int32.ofNat iN) - (Int32.ofNat aN))) &&& 0x3f).toInt64.toUInt64).toInt64) &&& (127 : Int64)).toInt32)), .val (.int (128 : Int32))] [])) _
          refine XS.iconst X0.here hx rfl (hb hby d3_75) ?_
          show Steps p.tables e below (s₁.setTop (mkF m 76 #[.val (.ref a1), .val (.int (Int32.ofNat iN)), .val (.int (Int32.ofNat aN)), .val (.long q4), .second, .val (.int (Int32.ofNat (mm + 1))), .val (.int ((Int32.ofNat iN) - (Int32.ofNat aN))), .val (.int ((((q4.toUInt64 >>> (((7 : Int32) * ((Int32.ofNat iN) - (Int32.ofNat aN))) &&& 0x3f).toInt64.toUInt64).toInt64) &&& (127 : Int64)).toInt32)), .val (.int (128 : Int32))] [(.int (1 : Int32))])) _
          refine XS.goto X0.here hx rfl (pc0 := 76) (pc' := 80) rfl (hb hby d3_76) (by decide) (by decide) ?_
          exact k_)
        obtain ⟨fs, hr, hrun, hended, hW, hsame⟩ := X0.leave (v := some (.int (1 : Int32))) (fun h => by rw [Bd.returns] at h; cases h)
        refine ⟨_, _, pre105 _ ?_, hrun, hended, _, _, rfl, ?_, ⟨_, rfl⟩, hW, hsame.mono (by decide) (by decide)⟩
        · show Steps p.tables e below (s₁.setTop (mkF m 80 #[.val (.ref a1), .val (.int (Int32.ofNat iN)), .val (.int (Int32.ofNat aN)), .val (.long q4), .second, .val (.int (Int32.ofNat (mm + 1))), .val (.int ((Int32.ofNat iN) - (Int32.ofNat aN))), .val (.int ((((q4.toUInt64 >>> (((7 : Int32) * ((Int32.ofNat iN) - (Int32.ofNat aN))) &&& 0x3f).toInt64.toUInt64).toInt64) &&& (127 : Int64)).toInt32)), .val (.int (128 : Int32))] [(.int (1 : Int32))])) _
          exact retN X0 hx (t := .boolean) Bd.returns (by simp) (hb hby d3_80) hr
        · show QrmC Z a1 q4 iN aN mm h0 n0 _ s₁.heap _
          rw [e0]
          exact ⟨rfl, N0, rfl⟩
      · skip
        have e3 : iN - aN = mm := by omega
        have pre106 : ∀ t_, Steps p.tables e below (s₁.setTop (mkF m 80 #[.val (.ref a1), .val (.int (Int32.ofNat iN)), .val (.int (Int32.ofNat aN)), .val (.long q4), .second, .val (.int (Int32.ofNat (mm + 1))), .val (.int ((Int32.ofNat iN) - (Int32.ofNat aN))), .val (.int ((((q4.toUInt64 >>> (((7 : Int32) * ((Int32.ofNat iN) - (Int32.ofNat aN))) &&& 0x3f).toInt64.toUInt64).toInt64) &&& (127 : Int64)).toInt32)), .val (.int (0 : Int32))] [(.int (1 : Int32))])) t_ → Steps p.tables e below (s₁.setTop (entryFrame m #[(.ref a1), (.int (Int32.ofNat iN)), (.int (Int32.ofNat aN)), (.long q4), (.int (Int32.ofNat (mm + 1)))] 9)) t_ := fun t_ k_ => pre104 _ (by
          show Steps p.tables e below (s₁.setTop (mkF m 51 #[.val (.ref a1), .val (.int (Int32.ofNat iN)), .val (.int (Int32.ofNat aN)), .val (.long q4), .second, .val (.int (Int32.ofNat (mm + 1))), .val (.int ((Int32.ofNat iN) - (Int32.ofNat aN))), .val (.int ((((q4.toUInt64 >>> (((7 : Int32) * ((Int32.ofNat iN) - (Int32.ofNat aN))) &&& 0x3f).toInt64.toUInt64).toInt64) &&& (127 : Int64)).toInt32)), .unset] [(.int ((Int32.ofNat (mm + 1)) - (1 : Int32))), (.int ((Int32.ofNat iN) - (Int32.ofNat aN)))])) _
          refine XS.icmpYes X0.here hx rfl (pc0 := 51) (pc' := 60) rfl (hb hby d3_51) rfl (flt (by rw [ek, own_nm1]; exact mt (own_oflt (by omega) (by omega)).mp h3)).2.1 (by decide) (by decide) ?_
          show Steps p.tables e below (s₁.setTop (mkF m 60 #[.val (.ref a1), .val (.int (Int32.ofNat iN)), .val (.int (Int32.ofNat aN)), .val (.long q4), .second, .val (.int (Int32.ofNat (mm + 1))), .val (.int ((Int32.ofNat iN) - (Int32.ofNat aN))), .val (.int ((((q4.toUInt64 >>> (((7 : Int32) * ((Int32.ofNat iN) - (Int32.ofNat aN))) &&& 0x3f).toInt64.toUInt64).toInt64) &&& (127 : Int64)).toInt32)), .unset] [])) _
          refine XS.iconst X0.here hx rfl (hb hby d3_60) ?_
          show Steps p.tables e below (s₁.setTop (mkF m 61 #[.val (.ref a1), .val (.int (Int32.ofNat iN)), .val (.int (Int32.ofNat aN)), .val (.long q4), .second, .val (.int (Int32.ofNat (mm + 1))), .val (.int ((Int32.ofNat iN) - (Int32.ofNat aN))), .val (.int ((((q4.toUInt64 >>> (((7 : Int32) * ((Int32.ofNat iN) - (Int32.ofNat aN))) &&& 0x3f).toInt64.toUInt64).toInt64) &&& (127 : Int64)).toInt32)), .unset] [(.int (0 : Int32))])) _
          refine XS.istore X0.here hx rfl (hb hby d3_61) rfl (l' := #[.val (.ref a1), .val (.int (Int32.ofNat iN)), .val (.int (Int32.ofNat aN)), .val (.long q4), .second, .val (.int (Int32.ofNat (mm + 1))), .val (.int ((Int32.ofNat iN) - (Int32.ofNat aN))), .val (.int ((((q4.toUInt64 >>> (((7 : Int32) * ((Int32.ofNat iN) - (Int32.ofNat aN))) &&& 0x3f).toInt64.toUInt64).toInt64) &&& (127 : Int64)).toInt32)), .val (.int (0 : Int32))]) rfl ?_
          show Steps p.tables e below (s₁.setTop (mkF m 63 #[.val (.ref a1), .val (.int (Int32.ofNat iN)), .val (.int (Int32.ofNat aN)), .val (.long q4), .second, .val (.int (Int32.ofNat (mm + 1))), .val (.int ((Int32.ofNat iN) - (Int32.ofNat aN))), .val (.int ((((q4.toUInt64 >>> (((7 : Int32) * ((Int32.ofNat iN) - (Int32.ofNat aN))) &&& 0x3f).toInt64.toUInt64).toInt64) &&& (127 : Int64)).toInt32)), .val (.int (0 : Int32))] [])) _
          refine XS.aloadN X0.here hx rfl (hb hby d3_63) rfl rfl ?_
          show Steps p.tables e below (s₁.setTop (mkF m 64 #[.val (.ref a1), .val (.int (Int32.ofNat iN)), .val (.int (Int32.ofNat aN)), .val (.long q4), .second, .val (.int (Int32.ofNat (mm + 1))), .val (.int ((Int32.ofNat iN) - (Int32.ofNat aN))), .val (.int ((((q4.toUInt64 >>> (((7 : Int32) * ((Int32.ofNat iN) - (Int32.ofNat aN))) &&& 0x3f).toInt64.toUInt64).toInt64) &&& (127 : Int64)).toInt32)), .val (.int (0 : Int32))] [(.ref a1)])) _
          refine XS.iloadN X0.here hx rfl (hb hby d3_64) rfl ?_
          show Steps p.tables e below (s₁.setTop (mkF m 65 #[.val (.ref a1), .val (.int (Int32.ofNat iN)), .val (.int (Int32.ofNat aN)), .val (.long q4), .second, .val (.int (Int32.ofNat (mm + 1))), .val (.int ((Int32.ofNat iN) - (Int32.ofNat aN))), .val (.int ((((q4.toUInt64 >>> (((7 : Int32) * ((Int32.ofNat iN) - (Int32.ofNat aN))) &&& 0x3f).toInt64.toUInt64).toInt64) &&& (127 : Int64)).toInt32)), .val (.int (0 : Int32))] [(.int (Int32.ofNat iN)), (.ref a1)])) _
          refine X0.baloadBytes hx (j := (Int32.ofNat iN)) (v := (.int (own_out (own_u q4) aN mm iN))) (by rw [e0]; exact Ar.1) (State.isArrayOf_alike hZ.alike Ar.2.1) Ar.2.2 hin hat2 (g := (mkF m 65 #[.val (.ref a1), .val (.int (Int32.ofNat iN)), .val (.int (Int32.ofNat aN)), .val (.long q4), .second, .val (.int (Int32.ofNat (mm + 1))), .val (.int ((Int32.ofNat iN) - (Int32.ofNat aN))), .val (.int ((((q4.toUInt64 >>> (((7 : Int32) * ((Int32.ofNat iN) - (Int32.ofNat aN))) &&& 0x3f).toInt64.toUInt64).toInt64) &&& (127 : Int64)).toInt32)), .val (.int (0 : Int32))] [(.int (Int32.ofNat iN)), (.ref a1)])) rfl rfl (hb hby d3_65) _ ?_
          show Steps p.tables e below (s₁.setTop (mkF m 66 #[.val (.ref a1), .val (.int (Int32.ofNat iN)), .val (.int (Int32.ofNat aN)), .val (.long q4), .second, .val (.int (Int32.ofNat (mm + 1))), .val (.int ((Int32.ofNat iN) - (Int32.ofNat aN))), .val (.int ((((q4.toUInt64 >>> (((7 : Int32) * ((Int32.ofNat iN) - (Int32.ofNat aN))) &&& 0x3f).toInt64.toUInt64).toInt64) &&& (127 : Int64)).toInt32)), .val (.int (0 : Int32))] [(.int (own_out (own_u q4) aN mm iN))])) _
          refine XS.iload X0.here hx rfl (hb hby d3_66) rfl ?_
          show Steps p.tables e below (s₁.setTop (mkF m 68 #[.val (.ref a1), .val (.int (Int32.ofNat iN)), .val (.int (Int32.ofNat aN)), .val (.long q4), .second, .val (.int (Int32.ofNat (mm + 1))), .val (.int ((Int32.ofNat iN) - (Int32.ofNat aN))), .val (.int ((((q4.toUInt64 >>> (((7 : Int32) * ((Int32.ofNat iN) - (Int32.ofNat aN))) &&& 0x3f).toInt64.toUInt64).toInt64) &&& (127 : Int64)).toInt32)), .val (.int (0 : Int32))] [(.int ((((q4.toUInt64 >>> (((7 : Int32) * ((Int32.ofNat iN) - (Int32.ofNat aN))) &&& 0x3f).toInt64.toUInt64).toInt64) &&& (127 : Int64)).toInt32)), (.int (own_out (own_u q4) aN mm iN))])) _
          refine XS.iload X0.here hx rfl (hb hby d3_68) rfl ?_
          show Steps p.tables e below (s₁.setTop (mkF m 70 #[.val (.ref a1), .val (.int (Int32.ofNat iN)), .val (.int (Int32.ofNat aN)), .val (.long q4), .second, .val (.int (Int32.ofNat (mm + 1))), .val (.int ((Int32.ofNat iN) - (Int32.ofNat aN))), .val (.int ((((q4.toUInt64 >>> (((7 : Int32) * ((Int32.ofNat iN) - (Int32.ofNat aN))) &&& 0x3f).toInt64.toUInt64).toInt64) &&& (127 : Int64)).toInt32)), .val (.int (0 : Int32))] [(.int (0 : Int32)), (.int ((((q4.toUInt64 >>> (((7 : Int32) * ((Int32.ofNat iN) - (Int32.ofNat aN))) &&& 0x3f).toInt64.toUInt64).toInt64) &&& (127 : Int64)).toInt32)), (.int (own_out (own_u q4) aN mm iN))])) _
          refine XS.ior X0.here hx rfl (hb hby d3_70) rfl ?_
          show Steps p.tables e below (s₁.setTop (mkF m 71 #[.val (.ref a1), .val (.int (Int32.ofNat iN)), .val (.int (Int32.ofNat aN)), .val (.long q4), .second, .val (.int (Int32.ofNat (mm + 1))), .val (.int ((Int32.ofNat iN) - (Int32.ofNat aN))), .val (.int ((((q4.toUInt64 >>> (((7 : Int32) * ((Int32.ofNat iN) - (Int32.ofNat aN))) &&& 0x3f).toInt64.toUInt64).toInt64) &&& (127 : Int64)).toInt32)), .val (.int (0 : Int32))] [(.int (((((q4.toUInt64 >>> (((7 : Int32) * ((Int32.ofNat iN) - (Int32.ofNat aN))) &&& 0x3f).toInt64.toUInt64).toInt64) &&& (127 : Int64)).toInt32) ||| (0 : Int32))), (.int (own_out (own_u q4) aN mm iN))])) _
          refine XS.i2b X0.here hx rfl (hb hby d3_71) rfl ?_
          show Steps p.tables e below (s₁.setTop (mkF m 72 #[.val (.ref a1), .val (.int (Int32.ofNat iN)), .val (.int (Int32.ofNat aN)), .val (.long q4), .second, .val (.int (Int32.ofNat (mm + 1))), .val (.int ((Int32.ofNat iN) - (Int32.ofNat aN))), .val (.int ((((q4.toUInt64 >>> (((7 : Int32) * ((Int32.ofNat iN) - (Int32.ofNat aN))) &&& 0x3f).toInt64.toUInt64).toInt64) &&& (127 : Int64)).toInt32)), .val (.int (0 : Int32))] [(.int ((((((q4.toUInt64 >>> (((7 : Int32) * ((Int32.ofNat iN) - (Int32.ofNat aN))) &&& 0x3f).toInt64.toUInt64).toInt64) &&& (127 : Int64)).toInt32) ||| (0 : Int32)).toInt8.toInt32)), (.int (own_out (own_u q4) aN mm iN))])) _
          refine XS.icmpNo X0.here hx rfl (hb hby d3_72) rfl (teq (by rw [own_r0 (by rw [e3]; exact b4) eL, own_out, if_neg h1, if_neg (by omega), if_pos (by omega), e3])).2 ?_
          show Steps p.tables e below (s₁.setTop (mkF m 75 #[.val (.ref a1), .val (.int (Int32.ofNat iN)), .val (.int (Int32.ofNat aN)), .val (.long q4), .second, .val (.int (Int32.ofNat (mm + 1))), .val (.int ((Int32.ofNat iN) - (Int32.ofNat aN))), .val (.int ((((q4.toUInt64 >>> (((7 : Int32) * ((Int32.ofNat iN) - (Int32.ofNat aN))) &&& 0x3f).toInt64.toUInt64).toInt64) &&& (127 : Int64)).toInt32)), .val (.int (0 : Int32))] [])) _
          refine XS.iconst X0.here hx rfl (hb hby d3_75) ?_
          show Steps p.tables e below (s₁.setTop (mkF m 76 #[.val (.ref a1), .val (.int (Int32.ofNat iN)), .val (.int (Int32.ofNat aN)), .val (.long q4), .second, .val (.int (Int32.ofNat (mm + 1))), .val (.int ((Int32.ofNat iN) - (Int32.ofNat aN))), .val (.int ((((q4.toUInt64 >>> (((7 : Int32) * ((Int32.ofNat iN) - (Int32.ofNat aN))) &&& 0x3f).toInt64.toUInt64).toInt64) &&& (127 : Int64)).toInt32)), .val (.int (0 : Int32))] [(.int (1 : Int32))])) _
          refine XS.goto X0.here hx rfl (pc0 := 76) (pc' := 80) rfl (hb hby d3_76) (by decide) (by decide) ?_
          exact k_)
        obtain ⟨fs, hr, hrun, hended, hW, hsame⟩ := X0.leave (v := some (.int (1 : Int32))) (fun h => by rw [Bd.returns] at h; cases h)
        refine ⟨_, _, pre106 _ ?_, hrun, hended, _, _, rfl, ?_, ⟨_, rfl⟩, hW, hsame.mono (by decide) (by decide)⟩
        · show Steps p.tables e below (s₁.setTop (mkF m 80 #[.val (.ref a1), .val (.int (Int32.ofNat iN)), .val (.int (Int32.ofNat aN)), .val (.long q4), .second, .val (.int (Int32.ofNat (mm + 1))), .val (.int ((Int32.ofNat iN) - (Int32.ofNat aN))), .val (.int ((((q4.toUInt64 >>> (((7 : Int32) * ((Int32.ofNat iN) - (Int32.ofNat aN))) &&& 0x3f).toInt64.toUInt64).toInt64) &&& (127 : Int64)).toInt32)), .val (.int (0 : Int32))] [(.int (1 : Int32))])) _
          exact retN X0 hx (t := .boolean) Bd.returns (by simp) (hb hby d3_80) hr
        · show QrmC Z a1 q4 iN aN mm h0 n0 _ s₁.heap _
          rw [e0]
          exact ⟨rfl, N0, rfl⟩
    · skip
      have pre107 : ∀ t_, Steps p.tables e below (s₁.setTop (mkF m 30 #[.val (.ref a1), .val (.int (Int32.ofNat iN)), .val (.int (Int32.ofNat aN)), .val (.long q4), .second, .val (.int (Int32.ofNat (mm + 1))), .val (.int ((Int32.ofNat iN) - (Int32.ofNat aN))), .unset, .unset] [(.int (1 : Int32))])) t_ → Steps p.tables e below (s₁.setTop (entryFrame m #[(.ref a1), (.int (Int32.ofNat iN)), (.int (Int32.ofNat aN)), (.long q4), (.int (Int32.ofNat (mm + 1)))] 9)) t_ := fun t_ k_ => pre103 _ (by
        show Steps p.tables e below (s₁.setTop (mkF m 14 #[.val (.ref a1), .val (.int (Int32.ofNat iN)), .val (.int (Int32.ofNat aN)), .val (.long q4), .second, .val (.int (Int32.ofNat (mm + 1))), .val (.int ((Int32.ofNat iN) - (Int32.ofNat aN))), .unset, .unset] [(.int (Int32.ofNat (mm + 1))), (.int ((Int32.ofNat iN) - (Int32.ofNat aN)))])) _
        refine XS.icmpNo X0.here hx rfl (hb hby d3_14) rfl (flt (by rw [ek]; exact mt (own_oflt (by omega) (by omega)).mp h2)).1 ?_
        show Steps p.tables e below (s₁.setTop (mkF m 17 #[.val (.ref a1), .val (.int (Int32.ofNat iN)), .val (.int (Int32.ofNat aN)), .val (.long q4), .second, .val (.int (Int32.ofNat (mm + 1))), .val (.int ((Int32.ofNat iN) - (Int32.ofNat aN))), .unset, .unset] [])) _
        refine XS.aloadN X0.here hx rfl (hb hby d3_17) rfl rfl ?_
        show Steps p.tables e below (s₁.setTop (mkF m 18 #[.val (.ref a1), .val (.int (Int32.ofNat iN)), .val (.int (Int32.ofNat aN)), .val (.long q4), .second, .val (.int (Int32.ofNat (mm + 1))), .val (.int ((Int32.ofNat iN) - (Int32.ofNat aN))), .unset, .unset] [(.ref a1)])) _
        refine XS.iloadN X0.here hx rfl (hb hby d3_18) rfl ?_
        show Steps p.tables e below (s₁.setTop (mkF m 19 #[.val (.ref a1), .val (.int (Int32.ofNat iN)), .val (.int (Int32.ofNat aN)), .val (.long q4), .second, .val (.int (Int32.ofNat (mm + 1))), .val (.int ((Int32.ofNat iN) - (Int32.ofNat aN))), .unset, .unset] [(.int (Int32.ofNat iN)), (.ref a1)])) _
        refine X0.baloadBytes hx (j := (Int32.ofNat iN)) (v := (.int (own_out (own_u q4) aN mm iN))) (by rw [e0]; exact Ar.1) (State.isArrayOf_alike hZ.alike Ar.2.1) Ar.2.2 hin hat2 (g := (mkF m 19 #[.val (.ref a1), .val (.int (Int32.ofNat iN)), .val (.int (Int32.ofNat aN)), .val (.long q4), .second, .val (.int (Int32.ofNat (mm + 1))), .val (.int ((Int32.ofNat iN) - (Int32.ofNat aN))), .unset, .unset] [(.int (Int32.ofNat iN)), (.ref a1)])) rfl rfl (hb hby d3_19) _ ?_
        show Steps p.tables e below (s₁.setTop (mkF m 20 #[.val (.ref a1), .val (.int (Int32.ofNat iN)), .val (.int (Int32.ofNat aN)), .val (.long q4), .second, .val (.int (Int32.ofNat (mm + 1))), .val (.int ((Int32.ofNat iN) - (Int32.ofNat aN))), .unset, .unset] [(.int (own_out (own_u q4) aN mm iN))])) _
        refine XS.bipush X0.here hx rfl (hb hby d3_20) ?_
        show Steps p.tables e below (s₁.setTop (mkF m 22 #[.val (.ref a1), .val (.int (Int32.ofNat iN)), .val (.int (Int32.ofNat aN)), .val (.long q4), .second, .val (.int (Int32.ofNat (mm + 1))), .val (.int ((Int32.ofNat iN) - (Int32.ofNat aN))), .unset, .unset] [(.int (90 : Int32)), (.int (own_out (own_u q4) aN mm iN))])) _
        refine XS.icmpNo X0.here hx rfl (hb hby d3_22) rfl (teq (by rw [own_out, if_neg h1, if_neg (by omega), if_neg (by omega)] : (own_out (own_u q4) aN mm iN) = (90 : Int32))).2 ?_
        show Steps p.tables e below (s₁.setTop (mkF m 25 #[.val (.ref a1), .val (.int (Int32.ofNat iN)), .val (.int (Int32.ofNat aN)), .val (.long q4), .second, .val (.int (Int32.ofNat (mm + 1))), .val (.int ((Int32.ofNat iN) - (Int32.ofNat aN))), .unset, .unset] [])) _
        refine XS.iconst X0.here hx rfl (hb hby d3_25) ?_
        show Steps p.tables e below (s₁.setTop (mkF m 26 #[.val (.ref a1), .val (.int (Int32.ofNat iN)), .val (.int (Int32.ofNat aN)), .val (.long q4), .second, .val (.int (Int32.ofNat (mm + 1))), .val (.int ((Int32.ofNat iN) - (Int32.ofNat aN))), .unset, .unset] [(.int (1 : Int32))])) _
        refine XS.goto X0.here hx rfl (pc0 := 26) (pc' := 30) rfl (hb hby d3_26) (by decide) (by decide) ?_
        exact k_)
      obtain ⟨fs, hr, hrun, hended, hW, hsame⟩ := X0.leave (v := some (.int (1 : Int32))) (fun h => by rw [Bd.returns] at h; cases h)
      refine ⟨_, _, pre107 _ ?_, hrun, hended, _, _, rfl, ?_, ⟨_, rfl⟩, hW, hsame.mono (by decide) (by decide)⟩
      · show Steps p.tables e below (s₁.setTop (mkF m 30 #[.val (.ref a1), .val (.int (Int32.ofNat iN)), .val (.int (Int32.ofNat aN)), .val (.long q4), .second, .val (.int (Int32.ofNat (mm + 1))), .val (.int ((Int32.ofNat iN) - (Int32.ofNat aN))), .unset, .unset] [(.int (1 : Int32))])) _
        exact retN X0 hx (t := .boolean) Bd.returns (by simp) (hb hby d3_30) hr
      · show QrmC Z a1 q4 iN aN mm h0 n0 _ s₁.heap _
        rw [e0]
        exact ⟨rfl, N0, rfl⟩
theorem rmCg (l : Launch) (Z : State) (a0 : Array Value) (hw : ∀ d ∈ tables_1, d.before a0 Z = true) (ws : List Jvm.Cond) (a1 : Addr) (q4 : Int64) (iN : Nat) (aN : Nat) (mm : Nat) (gN : Nat) (h0 : Heap) (n0 : Nat) (Z0 : n0 ≤ h0.size) (eg : gN = mm + 1) (b0 : iN < 20) (b1 : 1 ≤ aN) (b2 : aN ≤ 8) (b3 : mm ≤ 9) (b4 : own_u q4 / 128 ^ mm < 128) (V : own_Ar Z h0 a1 (own_out (own_u q4) aN mm)) :
    MetFree l (⟨"com/example/termite/termite/protocol/VarintsWriteUnsignedPinLaw", "cell", "([BIIJI)Z"⟩ : MethodName) (head1 (Jvm.Cond.code (⟨"com/example/termite/termite/protocol/VarintsWriteUnsignedPinLaw", "cell", "([BIIJI)Z"⟩ : MethodName) method_3_code 9 (some .boolean) :: ws) ({ frames := 0, cells := 0, slots := 0, locals := 0 } : Room)) (fun a U => a = #[(.ref a1), (.int (Int32.ofNat iN)), (.int (Int32.ofNat aN)), (.long q4), (.int (Int32.ofNat gN))] ∧ Z.Warmed39 U.vm ∧ U.heap = h0) (fun _ _ _ _ _ => True) (fun _ U o U' => ∃ v L, o = .returned v ∧ QrmC Z a1 q4 iN aN mm h0 n0 v U'.heap L ∧ FrameEnd U o U' L ({ frames := 0, cells := 0, slots := 0, locals := 0 } : Room).cells ({ frames := 0, cells := 0, slots := 0, locals := 0 } : Room).slots) := by
  subst eg
  exact rmC l Z a0 hw ws a1 q4 iN aN mm h0 n0 Z0 b0 b1 b2 b3 b4 V
theorem pd_0 : parseMethodDescriptor "(J)I" = some ⟨[.long], some .int⟩ := by decide +kernel
theorem pd_1 : parseMethodDescriptor "(J[BI)I" = some ⟨[.long, (.array .byte), .int], some .int⟩ := by decide +kernel
theorem pd_2 : parseMethodDescriptor "([BIIJI)Z" = some ⟨[(.array .byte), .int, .int, .long, .int], some .boolean⟩ := by decide +kernel
theorem ef_rm0 (m : MethodId) (x0 : Int64) (x1 : Int32) (x2 : Int32) : entryFrame m #[(.long x0), (.int x1), (.int x2)] maxLocals = mkF m 0 #[.val (.long x0), .second, .val (.int x1), .val (.int x2), .unset, .unset, .unset, .unset, .unset, .unset, .unset] [] := by first | (simp [entryFrame, mkF, argsToLocals, Value.category, maxLocals]; done) | rfl
def Qrm0 (Z : State) (q1 : Int64) (p2 : Int32) (p3 : Int32) (h0 : Heap) (n0 : Nat) (v : Option Value) (h : Heap) (L : List Loc) : Prop := v = some (.int 1) ∧ Fr n0 L
set_option maxRecDepth 65536 in
set_option maxHeartbeats 40000000 in
theorem rm0 (l : Launch) (Z : State) (a0 : Array Value) (hw : ∀ d ∈ tables_1, d.before a0 Z = true) (ws : List Jvm.Cond) (q1 : Int64) (p2 : Int32) (p3 : Int32) (h0 : Heap) (n0 : Nat) (Z0 : n0 ≤ h0.size) :
    MetFree l x (head1 (Jvm.Cond.code x code maxLocals ret :: ws) room_1) (fun a U => a = #[(.long q1), (.int p2), (.int p3)] ∧ Z.Warmed39 U.vm ∧ U.heap = h0) (fun _ _ _ _ _ => True) (fun _ U o U' => ∃ v L, o = .returned v ∧ Qrm0 Z q1 p2 p3 h0 n0 v U'.heap L ∧ FrameEnd U o U' L room_1.cells room_1.slots) := by
  refine MetFree.of_bodySF (plainFor_of_name pn_0) hisR ?_
  intro p e s m args below meth c s₁ Bd hml0 hP hK
  obtain ⟨rfl, hZ, hh⟩ := hP
  have hx := Bd.exec
  have hby := Bd.bytes
  have hml : c.maxLocals = 11 := hml0
  have hown : s.vm.findClass "com/example/termite/termite/protocol/VarintsWriteUnsignedPinLaw" = some m.cls := findClass_of_methodNamed Bd.named
  have hnm := (name_of_methodNamed Bd.named Bd.method).1
  have X0 : Stand p l e room_1 s m #[(.long q1), (.int p2), (.int p3)] below meth c s₁ [] 0 0 := Stand.of_body Bd
  have e0 : s₁.heap = h0 := by rw [← hh, Bd.state]; rfl
  have N0 := Fr.nil n0
  have pre0 : ∀ t_, Steps p.tables e below (s₁.setTop (mkF m 0 #[.val (.long q1), .second, .val (.int p2), .val (.int p3), .unset, .unset, .unset, .unset, .unset, .unset, .unset] [])) t_ → Steps p.tables e below (s₁.setTop (entryFrame m #[(.long q1), (.int p2), (.int p3)] maxLocals)) t_ := fun t_ k_ => castTop (ef_rm0 m q1 p2 p3) k_
  obtain ⟨v_, hv_v_, pre101⟩ : ∃ z_ : Int64, z_ = ((q1.toUInt64 >>> ((p2 &&& (63 : Int32)) &&& 0x3f).toInt64.toUInt64).toInt64) ∧ ∀ t_, Steps p.tables e below (s₁.setTop (mkF m 16 #[.val (.long q1), .second, .val (.int p2), .val (.int p3), .val (.long z_), .second, .val (.int ((1 : Int32) + (p3 &&& (7 : Int32)))), .unset, .unset, .unset, .unset] [])) t_ → Steps p.tables e below (s₁.setTop (entryFrame m #[(.long q1), (.int p2), (.int p3)] maxLocals)) t_ := ⟨_, rfl, fun t_ k_ => pre0 _ (by
    show Steps p.tables e below (s₁.setTop (mkF m 0 #[.val (.long q1), .second, .val (.int p2), .val (.int p3), .unset, .unset, .unset, .unset, .unset, .unset, .unset] [])) _
    refine XS.lloadN X0.here hx rfl (hb hby at_0) rfl ?_
    show Steps p.tables e below (s₁.setTop (mkF m 1 #[.val (.long q1), .second, .val (.int p2), .val (.int p3), .unset, .unset, .unset, .unset, .unset, .unset, .unset] [(.long q1)])) _
    refine XS.iloadN X0.here hx rfl (hb hby at_1) rfl ?_
    show Steps p.tables e below (s₁.setTop (mkF m 2 #[.val (.long q1), .second, .val (.int p2), .val (.int p3), .unset, .unset, .unset, .unset, .unset, .unset, .unset] [(.int p2), (.long q1)])) _
    refine XS.bipush X0.here hx rfl (hb hby at_2) ?_
    show Steps p.tables e below (s₁.setTop (mkF m 4 #[.val (.long q1), .second, .val (.int p2), .val (.int p3), .unset, .unset, .unset, .unset, .unset, .unset, .unset] [(.int (63 : Int32)), (.int p2), (.long q1)])) _
    refine XS.iand X0.here hx rfl (hb hby at_4) rfl ?_
    show Steps p.tables e below (s₁.setTop (mkF m 5 #[.val (.long q1), .second, .val (.int p2), .val (.int p3), .unset, .unset, .unset, .unset, .unset, .unset, .unset] [(.int (p2 &&& (63 : Int32))), (.long q1)])) _
    refine XS.lushr X0.here hx rfl (hb hby at_5) rfl ?_
    show Steps p.tables e below (s₁.setTop (mkF m 6 #[.val (.long q1), .second, .val (.int p2), .val (.int p3), .unset, .unset, .unset, .unset, .unset, .unset, .unset] [(.long ((q1.toUInt64 >>> ((p2 &&& (63 : Int32)) &&& 0x3f).toInt64.toUInt64).toInt64))])) _
    refine XS.lstore X0.here hx rfl (hb hby at_6) rfl (l' := #[.val (.long q1), .second, .val (.int p2), .val (.int p3), .val (.long ((q1.toUInt64 >>> ((p2 &&& (63 : Int32)) &&& 0x3f).toInt64.toUInt64).toInt64)), .second, .unset, .unset, .unset, .unset, .unset]) rfl ?_
    show Steps p.tables e below (s₁.setTop (mkF m 8 #[.val (.long q1), .second, .val (.int p2), .val (.int p3), .val (.long ((q1.toUInt64 >>> ((p2 &&& (63 : Int32)) &&& 0x3f).toInt64.toUInt64).toInt64)), .second, .unset, .unset, .unset, .unset, .unset] [])) _
    refine XS.iconst X0.here hx rfl (hb hby at_8) ?_
    show Steps p.tables e below (s₁.setTop (mkF m 9 #[.val (.long q1), .second, .val (.int p2), .val (.int p3), .val (.long ((q1.toUInt64 >>> ((p2 &&& (63 : Int32)) &&& 0x3f).toInt64.toUInt64).toInt64)), .second, .unset, .unset, .unset, .unset, .unset] [(.int (1 : Int32))])) _
    refine XS.iloadN X0.here hx rfl (hb hby at_9) rfl ?_
    show Steps p.tables e below (s₁.setTop (mkF m 10 #[.val (.long q1), .second, .val (.int p2), .val (.int p3), .val (.long ((q1.toUInt64 >>> ((p2 &&& (63 : Int32)) &&& 0x3f).toInt64.toUInt64).toInt64)), .second, .unset, .unset, .unset, .unset, .unset] [(.int p3), (.int (1 : Int32))])) _
    refine XS.bipush X0.here hx rfl (hb hby at_10) ?_
    show Steps p.tables e below (s₁.setTop (mkF m 12 #[.val (.long q1), .second, .val (.int p2), .val (.int p3), .val (.long ((q1.toUInt64 >>> ((p2 &&& (63 : Int32)) &&& 0x3f).toInt64.toUInt64).toInt64)), .second, .unset, .unset, .unset, .unset, .unset] [(.int (7 : Int32)), (.int p3), (.int (1 : Int32))])) _
    refine XS.iand X0.here hx rfl (hb hby at_12) rfl ?_
    show Steps p.tables e below (s₁.setTop (mkF m 13 #[.val (.long q1), .second, .val (.int p2), .val (.int p3), .val (.long ((q1.toUInt64 >>> ((p2 &&& (63 : Int32)) &&& 0x3f).toInt64.toUInt64).toInt64)), .second, .unset, .unset, .unset, .unset, .unset] [(.int (p3 &&& (7 : Int32))), (.int (1 : Int32))])) _
    refine XS.iadd X0.here hx rfl (hb hby at_13) rfl ?_
    show Steps p.tables e below (s₁.setTop (mkF m 14 #[.val (.long q1), .second, .val (.int p2), .val (.int p3), .val (.long ((q1.toUInt64 >>> ((p2 &&& (63 : Int32)) &&& 0x3f).toInt64.toUInt64).toInt64)), .second, .unset, .unset, .unset, .unset, .unset] [(.int ((1 : Int32) + (p3 &&& (7 : Int32))))])) _
    refine XS.istore X0.here hx rfl (hb hby at_14) rfl (l' := #[.val (.long q1), .second, .val (.int p2), .val (.int p3), .val (.long ((q1.toUInt64 >>> ((p2 &&& (63 : Int32)) &&& 0x3f).toInt64.toUInt64).toInt64)), .second, .val (.int ((1 : Int32) + (p3 &&& (7 : Int32)))), .unset, .unset, .unset, .unset]) rfl ?_
    exact k_)⟩
  obtain ⟨at_, hv_at_, pre102⟩ : ∃ z_ : Int32, z_ = ((1 : Int32) + (p3 &&& (7 : Int32))) ∧ ∀ t_, Steps p.tables e below (s₁.setTop (mkF m 16 #[.val (.long q1), .second, .val (.int p2), .val (.int p3), .val (.long v_), .second, .val (.int z_), .unset, .unset, .unset, .unset] [])) t_ → Steps p.tables e below (s₁.setTop (entryFrame m #[(.long q1), (.int p2), (.int p3)] maxLocals)) t_ := ⟨_, rfl, fun t_ k_ => pre101 _ (by
    exact k_)⟩
  obtain ⟨aN, ha, b1, b2⟩ := own_at p3
  rw [← hv_at_] at ha
  subst ha
  obtain ⟨T103, h103, k_b, X103, e103, Ext_b, A_b, st103⟩ := newP X0 hx hZ (hw _ (List.mem_of_getElem? (i := 0) rfl)) e0 (g := (mkF m 18 #[.val (.long q1), .second, .val (.int p2), .val (.int p3), .val (.long v_), .second, .val (.int (Int32.ofNat aN)), .unset, .unset, .unset, .unset] [(.int (20 : Int32))])) rfl (hb hby at_18) rfl (by decide) (cap := 20) (by decide) (by decide) (by decide) (by decide)
  obtain ⟨b, eq_b⟩ : ∃ z, z = h0.size := ⟨_, rfl⟩
  rw [← eq_b] at A_b st103
  have g_b : n0 ≤ b := Nat.le_trans Z0 (Nat.le_of_eq eq_b.symm)
  have Z104 : n0 ≤ h103.size := Nat.le_trans Z0 (Ext_b.1)
  have V_b : Arv Z h103 b k_b .byte (20 : Int32) [(.int (0 : Int32)), (.int (0 : Int32)), (.int (0 : Int32)), (.int (0 : Int32)), (.int (0 : Int32)), (.int (0 : Int32)), (.int (0 : Int32)), (.int (0 : Int32)), (.int (0 : Int32)), (.int (0 : Int32)), (.int (0 : Int32)), (.int (0 : Int32)), (.int (0 : Int32)), (.int (0 : Int32)), (.int (0 : Int32)), (.int (0 : Int32)), (.int (0 : Int32)), (.int (0 : Int32)), (.int (0 : Int32)), (.int (0 : Int32))] (.int (0 : Int32)) := (Arv.new A_b (by decide)).pad (pad_rep [] (.int (0 : Int32)) 20)
  obtain ⟨cl105, Ar105, qk105, Sz105, Ng105, Hs105, Gs105⟩ := V_b
  have hin105 : ¬ ((0 : Int32) < 0 ∨ cl105.slots.size ≤ ((0 : Int32)).toNatClampNeg) := inb_of Sz105 ⟨by decide, by decide⟩
  obtain ⟨T106, h106, X106, e106, W106, st106⟩ := stB X103 hx hZ e103 Ar105 (j := (0 : Int32)) hin105 (g := (mkF m 24 #[.val (.long q1), .second, .val (.int p2), .val (.int p3), .val (.long v_), .second, .val (.int (Int32.ofNat aN)), .unset, .unset, .unset, .unset] [(.int (90 : Int32)), (.int (0 : Int32)), (.ref b), (.ref b)])) rfl rfl (hb hby at_24)
  have V_b_106 : Arv Z h106 b k_b .byte (20 : Int32) [(.int (nar .byte (90 : Int32))), (.int (0 : Int32)), (.int (0 : Int32)), (.int (0 : Int32)), (.int (0 : Int32)), (.int (0 : Int32)), (.int (0 : Int32)), (.int (0 : Int32)), (.int (0 : Int32)), (.int (0 : Int32)), (.int (0 : Int32)), (.int (0 : Int32)), (.int (0 : Int32)), (.int (0 : Int32)), (.int (0 : Int32)), (.int (0 : Int32)), (.int (0 : Int32)), (.int (0 : Int32)), (.int (0 : Int32)), (.int (0 : Int32))] (.int (0 : Int32)) := Arv.set Ar105 qk105 Sz105 Ng105 Hs105 Gs105 (fits_nar_byte _) W106 0 rfl (Nat.le_of_ble_eq_true rfl)
  have N106 := Fr.snoc X106 N0 g_b
  have Z107 : n0 ≤ h106.size := Nat.le_trans Z104 ((Keep.of_wr W106).1)
  obtain ⟨cl108, Ar108, qk108, Sz108, Ng108, Hs108, Gs108⟩ := V_b_106
  have hin108 : ¬ ((1 : Int32) < 0 ∨ cl108.slots.size ≤ ((1 : Int32)).toNatClampNeg) := inb_of Sz108 ⟨by decide, by decide⟩
  obtain ⟨T109, h109, X109, e109, W109, st109⟩ := stB X106 hx hZ e106 Ar108 (j := (1 : Int32)) hin108 (g := (mkF m 29 #[.val (.long q1), .second, .val (.int p2), .val (.int p3), .val (.long v_), .second, .val (.int (Int32.ofNat aN)), .unset, .unset, .unset, .unset] [(.int (90 : Int32)), (.int (1 : Int32)), (.ref b), (.ref b)])) rfl rfl (hb hby at_29)
  have V_b_109 : Arv Z h109 b k_b .byte (20 : Int32) [(.int (nar .byte (90 : Int32))), (.int (nar .byte (90 : Int32))), (.int (0 : Int32)), (.int (0 : Int32)), (.int (0 : Int32)), (.int (0 : Int32)), (.int (0 : Int32)), (.int (0 : Int32)), (.int (0 : Int32)), (.int (0 : Int32)), (.int (0 : Int32)), (.int (0 : Int32)), (.int (0 : Int32)), (.int (0 : Int32)), (.int (0 : Int32)), (.int (0 : Int32)), (.int (0 : Int32)), (.int (0 : Int32)), (.int (0 : Int32)), (.int (0 : Int32))] (.int (0 : Int32)) := Arv.set Ar108 qk108 Sz108 Ng108 Hs108 Gs108 (fits_nar_byte _) W109 1 rfl (Nat.le_of_ble_eq_true rfl)
  have N109 := Fr.snoc X109 N106 g_b
  have Z110 : n0 ≤ h109.size := Nat.le_trans Z107 ((Keep.of_wr W109).1)
  obtain ⟨cl111, Ar111, qk111, Sz111, Ng111, Hs111, Gs111⟩ := V_b_109
  have hin111 : ¬ ((2 : Int32) < 0 ∨ cl111.slots.size ≤ ((2 : Int32)).toNatClampNeg) := inb_of Sz111 ⟨by decide, by decide⟩
  obtain ⟨T112, h112, X112, e112, W112, st112⟩ := stB X109 hx hZ e109 Ar111 (j := (2 : Int32)) hin111 (g := (mkF m 34 #[.val (.long q1), .second, .val (.int p2), .val (.int p3), .val (.long v_), .second, .val (.int (Int32.ofNat aN)), .unset, .unset, .unset, .unset] [(.int (90 : Int32)), (.int (2 : Int32)), (.ref b), (.ref b)])) rfl rfl (hb hby at_34)
  have V_b_112 : Arv Z h112 b k_b .byte (20 : Int32) [(.int (nar .byte (90 : Int32))), (.int (nar .byte (90 : Int32))), (.int (nar .byte (90 : Int32))), (.int (0 : Int32)), (.int (0 : Int32)), (.int (0 : Int32)), (.int (0 : Int32)), (.int (0 : Int32)), (.int (0 : Int32)), (.int (0 : Int32)), (.int (0 : Int32)), (.int (0 : Int32)), (.int (0 : Int32)), (.int (0 : Int32)), (.int (0 : Int32)), (.int (0 : Int32)), (.int (0 : Int32)), (.int (0 : Int32)), (.int (0 : Int32)), (.int (0 : Int32))] (.int (0 : Int32)) := Arv.set Ar111 qk111 Sz111 Ng111 Hs111 Gs111 (fits_nar_byte _) W112 2 rfl (Nat.le_of_ble_eq_true rfl)
  have N112 := Fr.snoc X112 N109 g_b
  have Z113 : n0 ≤ h112.size := Nat.le_trans Z110 ((Keep.of_wr W112).1)
  obtain ⟨cl114, Ar114, qk114, Sz114, Ng114, Hs114, Gs114⟩ := V_b_112
  have hin114 : ¬ ((3 : Int32) < 0 ∨ cl114.slots.size ≤ ((3 : Int32)).toNatClampNeg) := inb_of Sz114 ⟨by decide, by decide⟩
  obtain ⟨T115, h115, X115, e115, W115, st115⟩ := stB X112 hx hZ e112 Ar114 (j := (3 : Int32)) hin114 (g := (mkF m 39 #[.val (.long q1), .second, .val (.int p2), .val (.int p3), .val (.long v_), .second, .val (.int (Int32.ofNat aN)), .unset, .unset, .unset, .unset] [(.int (90 : Int32)), (.int (3 : Int32)), (.ref b), (.ref b)])) rfl rfl (hb hby at_39)
  have V_b_115 : Arv Z h115 b k_b .byte (20 : Int32) [(.int (nar .byte (90 : Int32))), (.int (nar .byte (90 : Int32))), (.int (nar .byte (90 : Int32))), (.int (nar .byte (90 : Int32))), (.int (0 : Int32)), (.int (0 : Int32)), (.int (0 : Int32)), (.int (0 : Int32)), (.int (0 : Int32)), (.int (0 : Int32)), (.int (0 : Int32)), (.int (0 : Int32)), (.int (0 : Int32)), (.int (0 : Int32)), (.int (0 : Int32)), (.int (0 : Int32)), (.int (0 : Int32)), (.int (0 : Int32)), (.int (0 : Int32)), (.int (0 : Int32))] (.int (0 : Int32)) := Arv.set Ar114 qk114 Sz114 Ng114 Hs114 Gs114 (fits_nar_byte _) W115 3 rfl (Nat.le_of_ble_eq_true rfl)
  have N115 := Fr.snoc X115 N112 g_b
  have Z116 : n0 ≤ h115.size := Nat.le_trans Z113 ((Keep.of_wr W115).1)
  obtain ⟨cl117, Ar117, qk117, Sz117, Ng117, Hs117, Gs117⟩ := V_b_115
  have hin117 : ¬ ((4 : Int32) < 0 ∨ cl117.slots.size ≤ ((4 : Int32)).toNatClampNeg) := inb_of Sz117 ⟨by decide, by decide⟩
  obtain ⟨T118, h118, X118, e118, W118, st118⟩ := stB X115 hx hZ e115 Ar117 (j := (4 : Int32)) hin117 (g := (mkF m 44 #[.val (.long q1), .second, .val (.int p2), .val (.int p3), .val (.long v_), .second, .val (.int (Int32.ofNat aN)), .unset, .unset, .unset, .unset] [(.int (90 : Int32)), (.int (4 : Int32)), (.ref b), (.ref b)])) rfl rfl (hb hby at_44)
  have V_b_118 : Arv Z h118 b k_b .byte (20 : Int32) [(.int (nar .byte (90 : Int32))), (.int (nar .byte (90 : Int32))), (.int (nar .byte (90 : Int32))), (.int (nar .byte (90 : Int32))), (.int (nar .byte (90 : Int32))), (.int (0 : Int32)), (.int (0 : Int32)), (.int (0 : Int32)), (.int (0 : Int32)), (.int (0 : Int32)), (.int (0 : Int32)), (.int (0 : Int32)), (.int (0 : Int32)), (.int (0 : Int32)), (.int (0 : Int32)), (.int (0 : Int32)), (.int (0 : Int32)), (.int (0 : Int32)), (.int (0 : Int32)), (.int (0 : Int32))] (.int (0 : Int32)) := Arv.set Ar117 qk117 Sz117 Ng117 Hs117 Gs117 (fits_nar_byte _) W118 4 rfl (Nat.le_of_ble_eq_true rfl)
  have N118 := Fr.snoc X118 N115 g_b
  have Z119 : n0 ≤ h118.size := Nat.le_trans Z116 ((Keep.of_wr W118).1)
  obtain ⟨cl120, Ar120, qk120, Sz120, Ng120, Hs120, Gs120⟩ := V_b_118
  have hin120 : ¬ ((5 : Int32) < 0 ∨ cl120.slots.size ≤ ((5 : Int32)).toNatClampNeg) := inb_of Sz120 ⟨by decide, by decide⟩
  obtain ⟨T121, h121, X121, e121, W121, st121⟩ := stB X118 hx hZ e118 Ar120 (j := (5 : Int32)) hin120 (g := (mkF m 49 #[.val (.long q1), .second, .val (.int p2), .val (.int p3), .val (.long v_), .second, .val (.int (Int32.ofNat aN)), .unset, .unset, .unset, .unset] [(.int (90 : Int32)), (.int (5 : Int32)), (.ref b), (.ref b)])) rfl rfl (hb hby at_49)
  have V_b_121 : Arv Z h121 b k_b .byte (20 : Int32) [(.int (nar .byte (90 : Int32))), (.int (nar .byte (90 : Int32))), (.int (nar .byte (90 : Int32))), (.int (nar .byte (90 : Int32))), (.int (nar .byte (90 : Int32))), (.int (nar .byte (90 : Int32))), (.int (0 : Int32)), (.int (0 : Int32)), (.int (0 : Int32)), (.int (0 : Int32)), (.int (0 : Int32)), (.int (0 : Int32)), (.int (0 : Int32)), (.int (0 : Int32)), (.int (0 : Int32)), (.int (0 : Int32)), (.int (0 : Int32)), (.int (0 : Int32)), (.int (0 : Int32)), (.int (0 : Int32))] (.int (0 : Int32)) := Arv.set Ar120 qk120 Sz120 Ng120 Hs120 Gs120 (fits_nar_byte _) W121 5 rfl (Nat.le_of_ble_eq_true rfl)
  have N121 := Fr.snoc X121 N118 g_b
  have Z122 : n0 ≤ h121.size := Nat.le_trans Z119 ((Keep.of_wr W121).1)
  obtain ⟨cl123, Ar123, qk123, Sz123, Ng123, Hs123, Gs123⟩ := V_b_121
  have hin123 : ¬ ((6 : Int32) < 0 ∨ cl123.slots.size ≤ ((6 : Int32)).toNatClampNeg) := inb_of Sz123 ⟨by decide, by decide⟩
  obtain ⟨T124, h124, X124, e124, W124, st124⟩ := stB X121 hx hZ e121 Ar123 (j := (6 : Int32)) hin123 (g := (mkF m 55 #[.val (.long q1), .second, .val (.int p2), .val (.int p3), .val (.long v_), .second, .val (.int (Int32.ofNat aN)), .unset, .unset, .unset, .unset] [(.int (90 : Int32)), (.int (6 : Int32)), (.ref b), (.ref b)])) rfl rfl (hb hby at_55)
  have V_b_124 : Arv Z h124 b k_b .byte (20 : Int32) [(.int (nar .byte (90 : Int32))), (.int (nar .byte (90 : Int32))), (.int (nar .byte (90 : Int32))), (.int (nar .byte (90 : Int32))), (.int (nar .byte (90 : Int32))), (.int (nar .byte (90 : Int32))), (.int (nar .byte (90 : Int32))), (.int (0 : Int32)), (.int (0 : Int32)), (.int (0 : Int32)), (.int (0 : Int32)), (.int (0 : Int32)), (.int (0 : Int32)), (.int (0 : Int32)), (.int (0 : Int32)), (.int (0 : Int32)), (.int (0 : Int32)), (.int (0 : Int32)), (.int (0 : Int32)), (.int (0 : Int32))] (.int (0 : Int32)) := Arv.set Ar123 qk123 Sz123 Ng123 Hs123 Gs123 (fits_nar_byte _) W124 6 rfl (Nat.le_of_ble_eq_true rfl)
  have N124 := Fr.snoc X124 N121 g_b
  have Z125 : n0 ≤ h124.size := Nat.le_trans Z122 ((Keep.of_wr W124).1)
  have pre126 : ∀ t_, Steps p.tables e below (T124.setTop (mkF m 56 #[.val (.long q1), .second, .val (.int p2), .val (.int p3), .val (.long v_), .second, .val (.int (Int32.ofNat aN)), .unset, .unset, .unset, .unset] [(.ref b)])) t_ → Steps p.tables e below (s₁.setTop (entryFrame m #[(.long q1), (.int p2), (.int p3)] maxLocals)) t_ := fun t_ k_ => pre102 _ (by
    show Steps p.tables e below (s₁.setTop (mkF m 16 #[.val (.long q1), .second, .val (.int p2), .val (.int p3), .val (.long v_), .second, .val (.int (Int32.ofNat aN)), .unset, .unset, .unset, .unset] [])) _
    refine XS.bipush X0.here hx rfl (hb hby at_16) ?_
    show Steps p.tables e below (s₁.setTop (mkF m 18 #[.val (.long q1), .second, .val (.int p2), .val (.int p3), .val (.long v_), .second, .val (.int (Int32.ofNat aN)), .unset, .unset, .unset, .unset] [(.int (20 : Int32))])) _
    refine st103 _ ?_
    show Steps p.tables e below (T103.setTop (mkF m 20 #[.val (.long q1), .second, .val (.int p2), .val (.int p3), .val (.long v_), .second, .val (.int (Int32.ofNat aN)), .unset, .unset, .unset, .unset] [(.ref b)])) _
    refine XS.dup X103.here hx rfl (hb hby at_20) rfl rfl ?_
    show Steps p.tables e below (T103.setTop (mkF m 21 #[.val (.long q1), .second, .val (.int p2), .val (.int p3), .val (.long v_), .second, .val (.int (Int32.ofNat aN)), .unset, .unset, .unset, .unset] [(.ref b), (.ref b)])) _
    refine XS.iconst X103.here hx rfl (hb hby at_21) ?_
    show Steps p.tables e below (T103.setTop (mkF m 22 #[.val (.long q1), .second, .val (.int p2), .val (.int p3), .val (.long v_), .second, .val (.int (Int32.ofNat aN)), .unset, .unset, .unset, .unset] [(.int (0 : Int32)), (.ref b), (.ref b)])) _
    refine XS.bipush X103.here hx rfl (hb hby at_22) ?_
    show Steps p.tables e below (T103.setTop (mkF m 24 #[.val (.long q1), .second, .val (.int p2), .val (.int p3), .val (.long v_), .second, .val (.int (Int32.ofNat aN)), .unset, .unset, .unset, .unset] [(.int (90 : Int32)), (.int (0 : Int32)), (.ref b), (.ref b)])) _
    refine st106 _ ?_
    show Steps p.tables e below (T106.setTop (mkF m 25 #[.val (.long q1), .second, .val (.int p2), .val (.int p3), .val (.long v_), .second, .val (.int (Int32.ofNat aN)), .unset, .unset, .unset, .unset] [(.ref b)])) _
    refine XS.dup X106.here hx rfl (hb hby at_25) rfl rfl ?_
    show Steps p.tables e below (T106.setTop (mkF m 26 #[.val (.long q1), .second, .val (.int p2), .val (.int p3), .val (.long v_), .second, .val (.int (Int32.ofNat aN)), .unset, .unset, .unset, .unset] [(.ref b), (.ref b)])) _
    refine XS.iconst X106.here hx rfl (hb hby at_26) ?_
    show Steps p.tables e below (T106.setTop (mkF m 27 #[.val (.long q1), .second, .val (.int p2), .val (.int p3), .val (.long v_), .second, .val (.int (Int32.ofNat aN)), .unset, .unset, .unset, .unset] [(.int (1 : Int32)), (.ref b), (.ref b)])) _
    refine XS.bipush X106.here hx rfl (hb hby at_27) ?_
    show Steps p.tables e below (T106.setTop (mkF m 29 #[.val (.long q1), .second, .val (.int p2), .val (.int p3), .val (.long v_), .second, .val (.int (Int32.ofNat aN)), .unset, .unset, .unset, .unset] [(.int (90 : Int32)), (.int (1 : Int32)), (.ref b), (.ref b)])) _
    refine st109 _ ?_
    show Steps p.tables e below (T109.setTop (mkF m 30 #[.val (.long q1), .second, .val (.int p2), .val (.int p3), .val (.long v_), .second, .val (.int (Int32.ofNat aN)), .unset, .unset, .unset, .unset] [(.ref b)])) _
    refine XS.dup X109.here hx rfl (hb hby at_30) rfl rfl ?_
    show Steps p.tables e below (T109.setTop (mkF m 31 #[.val (.long q1), .second, .val (.int p2), .val (.int p3), .val (.long v_), .second, .val (.int (Int32.ofNat aN)), .unset, .unset, .unset, .unset] [(.ref b), (.ref b)])) _
    refine XS.iconst X109.here hx rfl (hb hby at_31) ?_
    show Steps p.tables e below (T109.setTop (mkF m 32 #[.val (.long q1), .second, .val (.int p2), .val (.int p3), .val (.long v_), .second, .val (.int (Int32.ofNat aN)), .unset, .unset, .unset, .unset] [(.int (2 : Int32)), (.ref b), (.ref b)])) _
    refine XS.bipush X109.here hx rfl (hb hby at_32) ?_
    show Steps p.tables e below (T109.setTop (mkF m 34 #[.val (.long q1), .second, .val (.int p2), .val (.int p3), .val (.long v_), .second, .val (.int (Int32.ofNat aN)), .unset, .unset, .unset, .unset] [(.int (90 : Int32)), (.int (2 : Int32)), (.ref b), (.ref b)])) _
    refine st112 _ ?_
    show Steps p.tables e below (T112.setTop (mkF m 35 #[.val (.long q1), .second, .val (.int p2), .val (.int p3), .val (.long v_), .second, .val (.int (Int32.ofNat aN)), .unset, .unset, .unset, .unset] [(.ref b)])) _
    refine XS.dup X112.here hx rfl (hb hby at_35) rfl rfl ?_
    show Steps p.tables e below (T112.setTop (mkF m 36 #[.val (.long q1), .second, .val (.int p2), .val (.int p3), .val (.long v_), .second, .val (.int (Int32.ofNat aN)), .unset, .unset, .unset, .unset] [(.ref b), (.ref b)])) _
    refine XS.iconst X112.here hx rfl (hb hby at_36) ?_
    show Steps p.tables e below (T112.setTop (mkF m 37 #[.val (.long q1), .second, .val (.int p2), .val (.int p3), .val (.long v_), .second, .val (.int (Int32.ofNat aN)), .unset, .unset, .unset, .unset] [(.int (3 : Int32)), (.ref b), (.ref b)])) _
    refine XS.bipush X112.here hx rfl (hb hby at_37) ?_
    show Steps p.tables e below (T112.setTop (mkF m 39 #[.val (.long q1), .second, .val (.int p2), .val (.int p3), .val (.long v_), .second, .val (.int (Int32.ofNat aN)), .unset, .unset, .unset, .unset] [(.int (90 : Int32)), (.int (3 : Int32)), (.ref b), (.ref b)])) _
    refine st115 _ ?_
    show Steps p.tables e below (T115.setTop (mkF m 40 #[.val (.long q1), .second, .val (.int p2), .val (.int p3), .val (.long v_), .second, .val (.int (Int32.ofNat aN)), .unset, .unset, .unset, .unset] [(.ref b)])) _
    refine XS.dup X115.here hx rfl (hb hby at_40) rfl rfl ?_
    show Steps p.tables e below (T115.setTop (mkF m 41 #[.val (.long q1), .second, .val (.int p2), .val (.int p3), .val (.long v_), .second, .val (.int (Int32.ofNat aN)), .unset, .unset, .unset, .unset] [(.ref b), (.ref b)])) _
    refine XS.iconst X115.here hx rfl (hb hby at_41) ?_
    show Steps p.tables e below (T115.setTop (mkF m 42 #[.val (.long q1), .second, .val (.int p2), .val (.int p3), .val (.long v_), .second, .val (.int (Int32.ofNat aN)), .unset, .unset, .unset, .unset] [(.int (4 : Int32)), (.ref b), (.ref b)])) _
    refine XS.bipush X115.here hx rfl (hb hby at_42) ?_
    show Steps p.tables e below (T115.setTop (mkF m 44 #[.val (.long q1), .second, .val (.int p2), .val (.int p3), .val (.long v_), .second, .val (.int (Int32.ofNat aN)), .unset, .unset, .unset, .unset] [(.int (90 : Int32)), (.int (4 : Int32)), (.ref b), (.ref b)])) _
    refine st118 _ ?_
    show Steps p.tables e below (T118.setTop (mkF m 45 #[.val (.long q1), .second, .val (.int p2), .val (.int p3), .val (.long v_), .second, .val (.int (Int32.ofNat aN)), .unset, .unset, .unset, .unset] [(.ref b)])) _
    refine XS.dup X118.here hx rfl (hb hby at_45) rfl rfl ?_
    show Steps p.tables e below (T118.setTop (mkF m 46 #[.val (.long q1), .second, .val (.int p2), .val (.int p3), .val (.long v_), .second, .val (.int (Int32.ofNat aN)), .unset, .unset, .unset, .unset] [(.ref b), (.ref b)])) _
    refine XS.iconst X118.here hx rfl (hb hby at_46) ?_
    show Steps p.tables e below (T118.setTop (mkF m 47 #[.val (.long q1), .second, .val (.int p2), .val (.int p3), .val (.long v_), .second, .val (.int (Int32.ofNat aN)), .unset, .unset, .unset, .unset] [(.int (5 : Int32)), (.ref b), (.ref b)])) _
    refine XS.bipush X118.here hx rfl (hb hby at_47) ?_
    show Steps p.tables e below (T118.setTop (mkF m 49 #[.val (.long q1), .second, .val (.int p2), .val (.int p3), .val (.long v_), .second, .val (.int (Int32.ofNat aN)), .unset, .unset, .unset, .unset] [(.int (90 : Int32)), (.int (5 : Int32)), (.ref b), (.ref b)])) _
    refine st121 _ ?_
    show Steps p.tables e below (T121.setTop (mkF m 50 #[.val (.long q1), .second, .val (.int p2), .val (.int p3), .val (.long v_), .second, .val (.int (Int32.ofNat aN)), .unset, .unset, .unset, .unset] [(.ref b)])) _
    refine XS.dup X121.here hx rfl (hb hby at_50) rfl rfl ?_
    show Steps p.tables e below (T121.setTop (mkF m 51 #[.val (.long q1), .second, .val (.int p2), .val (.int p3), .val (.long v_), .second, .val (.int (Int32.ofNat aN)), .unset, .unset, .unset, .unset] [(.ref b), (.ref b)])) _
    refine XS.bipush X121.here hx rfl (hb hby at_51) ?_
    show Steps p.tables e below (T121.setTop (mkF m 53 #[.val (.long q1), .second, .val (.int p2), .val (.int p3), .val (.long v_), .second, .val (.int (Int32.ofNat aN)), .unset, .unset, .unset, .unset] [(.int (6 : Int32)), (.ref b), (.ref b)])) _
    refine XS.bipush X121.here hx rfl (hb hby at_53) ?_
    show Steps p.tables e below (T121.setTop (mkF m 55 #[.val (.long q1), .second, .val (.int p2), .val (.int p3), .val (.long v_), .second, .val (.int (Int32.ofNat aN)), .unset, .unset, .unset, .unset] [(.int (90 : Int32)), (.int (6 : Int32)), (.ref b), (.ref b)])) _
    refine st124 _ ?_
    exact k_)
  obtain ⟨cl127, Ar127, qk127, Sz127, Ng127, Hs127, Gs127⟩ := V_b_124
  have hin127 : ¬ ((7 : Int32) < 0 ∨ cl127.slots.size ≤ ((7 : Int32)).toNatClampNeg) := inb_of Sz127 ⟨by decide, by decide⟩
  obtain ⟨T128, h128, X128, e128, W128, st128⟩ := stB X124 hx hZ e124 Ar127 (j := (7 : Int32)) hin127 (g := (mkF m 61 #[.val (.long q1), .second, .val (.int p2), .val (.int p3), .val (.long v_), .second, .val (.int (Int32.ofNat aN)), .unset, .unset, .unset, .unset] [(.int (90 : Int32)), (.int (7 : Int32)), (.ref b), (.ref b)])) rfl rfl (hb hby at_61)
  have V_b_128 : Arv Z h128 b k_b .byte (20 : Int32) [(.int (nar .byte (90 : Int32))), (.int (nar .byte (90 : Int32))), (.int (nar .byte (90 : Int32))), (.int (nar .byte (90 : Int32))), (.int (nar .byte (90 : Int32))), (.int (nar .byte (90 : Int32))), (.int (nar .byte (90 : Int32))), (.int (nar .byte (90 : Int32))), (.int (0 : Int32)), (.int (0 : Int32)), (.int (0 : Int32)), (.int (0 : Int32)), (.int (0 : Int32)), (.int (0 : Int32)), (.int (0 : Int32)), (.int (0 : Int32)), (.int (0 : Int32)), (.int (0 : Int32)), (.int (0 : Int32)), (.int (0 : Int32))] (.int (0 : Int32)) := Arv.set Ar127 qk127 Sz127 Ng127 Hs127 Gs127 (fits_nar_byte _) W128 7 rfl (Nat.le_of_ble_eq_true rfl)
  have N128 := Fr.snoc X128 N124 g_b
  have Z129 : n0 ≤ h128.size := Nat.le_trans Z125 ((Keep.of_wr W128).1)
  obtain ⟨cl130, Ar130, qk130, Sz130, Ng130, Hs130, Gs130⟩ := V_b_128
  have hin130 : ¬ ((8 : Int32) < 0 ∨ cl130.slots.size ≤ ((8 : Int32)).toNatClampNeg) := inb_of Sz130 ⟨by decide, by decide⟩
  obtain ⟨T131, h131, X131, e131, W131, st131⟩ := stB X128 hx hZ e128 Ar130 (j := (8 : Int32)) hin130 (g := (mkF m 67 #[.val (.long q1), .second, .val (.int p2), .val (.int p3), .val (.long v_), .second, .val (.int (Int32.ofNat aN)), .unset, .unset, .unset, .unset] [(.int (90 : Int32)), (.int (8 : Int32)), (.ref b), (.ref b)])) rfl rfl (hb hby at_67)
  have V_b_131 : Arv Z h131 b k_b .byte (20 : Int32) [(.int (nar .byte (90 : Int32))), (.int (nar .byte (90 : Int32))), (.int (nar .byte (90 : Int32))), (.int (nar .byte (90 : Int32))), (.int (nar .byte (90 : Int32))), (.int (nar .byte (90 : Int32))), (.int (nar .byte (90 : Int32))), (.int (nar .byte (90 : Int32))), (.int (nar .byte (90 : Int32))), (.int (0 : Int32)), (.int (0 : Int32)), (.int (0 : Int32)), (.int (0 : Int32)), (.int (0 : Int32)), (.int (0 : Int32)), (.int (0 : Int32)), (.int (0 : Int32)), (.int (0 : Int32)), (.int (0 : Int32)), (.int (0 : Int32))] (.int (0 : Int32)) := Arv.set Ar130 qk130 Sz130 Ng130 Hs130 Gs130 (fits_nar_byte _) W131 8 rfl (Nat.le_of_ble_eq_true rfl)
  have N131 := Fr.snoc X131 N128 g_b
  have Z132 : n0 ≤ h131.size := Nat.le_trans Z129 ((Keep.of_wr W131).1)
  obtain ⟨cl133, Ar133, qk133, Sz133, Ng133, Hs133, Gs133⟩ := V_b_131
  have hin133 : ¬ ((9 : Int32) < 0 ∨ cl133.slots.size ≤ ((9 : Int32)).toNatClampNeg) := inb_of Sz133 ⟨by decide, by decide⟩
  obtain ⟨T134, h134, X134, e134, W134, st134⟩ := stB X131 hx hZ e131 Ar133 (j := (9 : Int32)) hin133 (g := (mkF m 73 #[.val (.long q1), .second, .val (.int p2), .val (.int p3), .val (.long v_), .second, .val (.int (Int32.ofNat aN)), .unset, .unset, .unset, .unset] [(.int (90 : Int32)), (.int (9 : Int32)), (.ref b), (.ref b)])) rfl rfl (hb hby at_73)
  have V_b_134 : Arv Z h134 b k_b .byte (20 : Int32) [(.int (nar .byte (90 : Int32))), (.int (nar .byte (90 : Int32))), (.int (nar .byte (90 : Int32))), (.int (nar .byte (90 : Int32))), (.int (nar .byte (90 : Int32))), (.int (nar .byte (90 : Int32))), (.int (nar .byte (90 : Int32))), (.int (nar .byte (90 : Int32))), (.int (nar .byte (90 : Int32))), (.int (nar .byte (90 : Int32))), (.int (0 : Int32)), (.int (0 : Int32)), (.int (0 : Int32)), (.int (0 : Int32)), (.int (0 : Int32)), (.int (0 : Int32)), (.int (0 : Int32)), (.int (0 : Int32)), (.int (0 : Int32)), (.int (0 : Int32))] (.int (0 : Int32)) := Arv.set Ar133 qk133 Sz133 Ng133 Hs133 Gs133 (fits_nar_byte _) W134 9 rfl (Nat.le_of_ble_eq_true rfl)
  have N134 := Fr.snoc X134 N131 g_b
  have Z135 : n0 ≤ h134.size := Nat.le_trans Z132 ((Keep.of_wr W134).1)
  obtain ⟨cl136, Ar136, qk136, Sz136, Ng136, Hs136, Gs136⟩ := V_b_134
  have hin136 : ¬ ((10 : Int32) < 0 ∨ cl136.slots.size ≤ ((10 : Int32)).toNatClampNeg) := inb_of Sz136 ⟨by decide, by decide⟩
  obtain ⟨T137, h137, X137, e137, W137, st137⟩ := stB X134 hx hZ e134 Ar136 (j := (10 : Int32)) hin136 (g := (mkF m 79 #[.val (.long q1), .second, .val (.int p2), .val (.int p3), .val (.long v_), .second, .val (.int (Int32.ofNat aN)), .unset, .unset, .unset, .unset] [(.int (90 : Int32)), (.int (10 : Int32)), (.ref b), (.ref b)])) rfl rfl (hb hby at_79)
  have V_b_137 : Arv Z h137 b k_b .byte (20 : Int32) [(.int (nar .byte (90 : Int32))), (.int (nar .byte (90 : Int32))), (.int (nar .byte (90 : Int32))), (.int (nar .byte (90 : Int32))), (.int (nar .byte (90 : Int32))), (.int (nar .byte (90 : Int32))), (.int (nar .byte (90 : Int32))), (.int (nar .byte (90 : Int32))), (.int (nar .byte (90 : Int32))), (.int (nar .byte (90 : Int32))), (.int (nar .byte (90 : Int32))), (.int (0 : Int32)), (.int (0 : Int32)), (.int (0 : Int32)), (.int (0 : Int32)), (.int (0 : Int32)), (.int (0 : Int32)), (.int (0 : Int32)), (.int (0 : Int32)), (.int (0 : Int32))] (.int (0 : Int32)) := Arv.set Ar136 qk136 Sz136 Ng136 Hs136 Gs136 (fits_nar_byte _) W137 10 rfl (Nat.le_of_ble_eq_true rfl)
  have N137 := Fr.snoc X137 N134 g_b
  have Z138 : n0 ≤ h137.size := Nat.le_trans Z135 ((Keep.of_wr W137).1)
  obtain ⟨cl139, Ar139, qk139, Sz139, Ng139, Hs139, Gs139⟩ := V_b_137
  have hin139 : ¬ ((11 : Int32) < 0 ∨ cl139.slots.size ≤ ((11 : Int32)).toNatClampNeg) := inb_of Sz139 ⟨by decide, by decide⟩
  obtain ⟨T140, h140, X140, e140, W140, st140⟩ := stB X137 hx hZ e137 Ar139 (j := (11 : Int32)) hin139 (g := (mkF m 85 #[.val (.long q1), .second, .val (.int p2), .val (.int p3), .val (.long v_), .second, .val (.int (Int32.ofNat aN)), .unset, .unset, .unset, .unset] [(.int (90 : Int32)), (.int (11 : Int32)), (.ref b), (.ref b)])) rfl rfl (hb hby at_85)
  have V_b_140 : Arv Z h140 b k_b .byte (20 : Int32) [(.int (nar .byte (90 : Int32))), (.int (nar .byte (90 : Int32))), (.int (nar .byte (90 : Int32))), (.int (nar .byte (90 : Int32))), (.int (nar .byte (90 : Int32))), (.int (nar .byte (90 : Int32))), (.int (nar .byte (90 : Int32))), (.int (nar .byte (90 : Int32))), (.int (nar .byte (90 : Int32))), (.int (nar .byte (90 : Int32))), (.int (nar .byte (90 : Int32))), (.int (nar .byte (90 : Int32))), (.int (0 : Int32)), (.int (0 : Int32)), (.int (0 : Int32)), (.int (0 : Int32)), (.int (0 : Int32)), (.int (0 : Int32)), (.int (0 : Int32)), (.int (0 : Int32))] (.int (0 : Int32)) := Arv.set Ar139 qk139 Sz139 Ng139 Hs139 Gs139 (fits_nar_byte _) W140 11 rfl (Nat.le_of_ble_eq_true rfl)
  have N140 := Fr.snoc X140 N137 g_b
  have Z141 : n0 ≤ h140.size := Nat.le_trans Z138 ((Keep.of_wr W140).1)
  obtain ⟨cl142, Ar142, qk142, Sz142, Ng142, Hs142, Gs142⟩ := V_b_140
  have hin142 : ¬ ((12 : Int32) < 0 ∨ cl142.slots.size ≤ ((12 : Int32)).toNatClampNeg) := inb_of Sz142 ⟨by decide, by decide⟩
  obtain ⟨T143, h143, X143, e143, W143, st143⟩ := stB X140 hx hZ e140 Ar142 (j := (12 : Int32)) hin142 (g := (mkF m 91 #[.val (.long q1), .second, .val (.int p2), .val (.int p3), .val (.long v_), .second, .val (.int (Int32.ofNat aN)), .unset, .unset, .unset, .unset] [(.int (90 : Int32)), (.int (12 : Int32)), (.ref b), (.ref b)])) rfl rfl (hb hby at_91)
  have V_b_143 : Arv Z h143 b k_b .byte (20 : Int32) [(.int (nar .byte (90 : Int32))), (.int (nar .byte (90 : Int32))), (.int (nar .byte (90 : Int32))), (.int (nar .byte (90 : Int32))), (.int (nar .byte (90 : Int32))), (.int (nar .byte (90 : Int32))), (.int (nar .byte (90 : Int32))), (.int (nar .byte (90 : Int32))), (.int (nar .byte (90 : Int32))), (.int (nar .byte (90 : Int32))), (.int (nar .byte (90 : Int32))), (.int (nar .byte (90 : Int32))), (.int (nar .byte (90 : Int32))), (.int (0 : Int32)), (.int (0 : Int32)), (.int (0 : Int32)), (.int (0 : Int32)), (.int (0 : Int32)), (.int (0 : Int32)), (.int (0 : Int32))] (.int (0 : Int32)) := Arv.set Ar142 qk142 Sz142 Ng142 Hs142 Gs142 (fits_nar_byte _) W143 12 rfl (Nat.le_of_ble_eq_true rfl)
  have N143 := Fr.snoc X143 N140 g_b
  have Z144 : n0 ≤ h143.size := Nat.le_trans Z141 ((Keep.of_wr W143).1)
  obtain ⟨cl145, Ar145, qk145, Sz145, Ng145, Hs145, Gs145⟩ := V_b_143
  have hin145 : ¬ ((13 : Int32) < 0 ∨ cl145.slots.size ≤ ((13 : Int32)).toNatClampNeg) := inb_of Sz145 ⟨by decide, by decide⟩
  obtain ⟨T146, h146, X146, e146, W146, st146⟩ := stB X143 hx hZ e143 Ar145 (j := (13 : Int32)) hin145 (g := (mkF m 97 #[.val (.long q1), .second, .val (.int p2), .val (.int p3), .val (.long v_), .second, .val (.int (Int32.ofNat aN)), .unset, .unset, .unset, .unset] [(.int (90 : Int32)), (.int (13 : Int32)), (.ref b), (.ref b)])) rfl rfl (hb hby at_97)
  have V_b_146 : Arv Z h146 b k_b .byte (20 : Int32) [(.int (nar .byte (90 : Int32))), (.int (nar .byte (90 : Int32))), (.int (nar .byte (90 : Int32))), (.int (nar .byte (90 : Int32))), (.int (nar .byte (90 : Int32))), (.int (nar .byte (90 : Int32))), (.int (nar .byte (90 : Int32))), (.int (nar .byte (90 : Int32))), (.int (nar .byte (90 : Int32))), (.int (nar .byte (90 : Int32))), (.int (nar .byte (90 : Int32))), (.int (nar .byte (90 : Int32))), (.int (nar .byte (90 : Int32))), (.int (nar .byte (90 : Int32))), (.int (0 : Int32)), (.int (0 : Int32)), (.int (0 : Int32)), (.int (0 : Int32)), (.int (0 : Int32)), (.int (0 : Int32))] (.int (0 : Int32)) := Arv.set Ar145 qk145 Sz145 Ng145 Hs145 Gs145 (fits_nar_byte _) W146 13 rfl (Nat.le_of_ble_eq_true rfl)
  have N146 := Fr.snoc X146 N143 g_b
  have Z147 : n0 ≤ h146.size := Nat.le_trans Z144 ((Keep.of_wr W146).1)
  have pre148 : ∀ t_, Steps p.tables e below (T146.setTop (mkF m 101 #[.val (.long q1), .second, .val (.int p2), .val (.int p3), .val (.long v_), .second, .val (.int (Int32.ofNat aN)), .unset, .unset, .unset, .unset] [(.int (14 : Int32)), (.ref b), (.ref b)])) t_ → Steps p.tables e below (s₁.setTop (entryFrame m #[(.long q1), (.int p2), (.int p3)] maxLocals)) t_ := fun t_ k_ => pre126 _ (by
    show Steps p.tables e below (T124.setTop (mkF m 56 #[.val (.long q1), .second, .val (.int p2), .val (.int p3), .val (.long v_), .second, .val (.int (Int32.ofNat aN)), .unset, .unset, .unset, .unset] [(.ref b)])) _
    refine XS.dup X124.here hx rfl (hb hby at_56) rfl rfl ?_
    show Steps p.tables e below (T124.setTop (mkF m 57 #[.val (.long q1), .second, .val (.int p2), .val (.int p3), .val (.long v_), .second, .val (.int (Int32.ofNat aN)), .unset, .unset, .unset, .unset] [(.ref b), (.ref b)])) _
    refine XS.bipush X124.here hx rfl (hb hby at_57) ?_
    show Steps p.tables e below (T124.setTop (mkF m 59 #[.val (.long q1), .second, .val (.int p2), .val (.int p3), .val (.long v_), .second, .val (.int (Int32.ofNat aN)), .unset, .unset, .unset, .unset] [(.int (7 : Int32)), (.ref b), (.ref b)])) _
    refine XS.bipush X124.here hx rfl (hb hby at_59) ?_
    show Steps p.tables e below (T124.setTop (mkF m 61 #[.val (.long q1), .second, .val (.int p2), .val (.int p3), .val (.long v_), .second, .val (.int (Int32.ofNat aN)), .unset, .unset, .unset, .unset] [(.int (90 : Int32)), (.int (7 : Int32)), (.ref b), (.ref b)])) _
    refine st128 _ ?_
    show Steps p.tables e below (T128.setTop (mkF m 62 #[.val (.long q1), .second, .val (.int p2), .val (.int p3), .val (.long v_), .second, .val (.int (Int32.ofNat aN)), .unset, .unset, .unset, .unset] [(.ref b)])) _
    refine XS.dup X128.here hx rfl (hb hby at_62) rfl rfl ?_
    show Steps p.tables e below (T128.setTop (mkF m 63 #[.val (.long q1), .second, .val (.int p2), .val (.int p3), .val (.long v_), .second, .val (.int (Int32.ofNat aN)), .unset, .unset, .unset, .unset] [(.ref b), (.ref b)])) _
    refine XS.bipush X128.here hx rfl (hb hby at_63) ?_
    show Steps p.tables e below (T128.setTop (mkF m 65 #[.val (.long q1), .second, .val (.int p2), .val (.int p3), .val (.long v_), .second, .val (.int (Int32.ofNat aN)), .unset, .unset, .unset, .unset] [(.int (8 : Int32)), (.ref b), (.ref b)])) _
    refine XS.bipush X128.here hx rfl (hb hby at_65) ?_
    show Steps p.tables e below (T128.setTop (mkF m 67 #[.val (.long q1), .second, .val (.int p2), .val (.int p3), .val (.long v_), .second, .val (.int (Int32.ofNat aN)), .unset, .unset, .unset, .unset] [(.int (90 : Int32)), (.int (8 : Int32)), (.ref b), (.ref b)])) _
    refine st131 _ ?_
    show Steps p.tables e below (T131.setTop (mkF m 68 #[.val (.long q1), .second, .val (.int p2), .val (.int p3), .val (.long v_), .second, .val (.int (Int32.ofNat aN)), .unset, .unset, .unset, .unset] [(.ref b)])) _
    refine XS.dup X131.here hx rfl (hb hby at_68) rfl rfl ?_
    show Steps p.tables e below (T131.setTop (mkF m 69 #[.val (.long q1), .second, .val (.int p2), .val (.int p3), .val (.long v_), .second, .val (.int (Int32.ofNat aN)), .unset, .unset, .unset, .unset] [(.ref b), (.ref b)])) _
    refine XS.bipush X131.here hx rfl (hb hby at_69) ?_
    show Steps p.tables e below (T131.setTop (mkF m 71 #[.val (.long q1), .second, .val (.int p2), .val (.int p3), .val (.long v_), .second, .val (.int (Int32.ofNat aN)), .unset, .unset, .unset, .unset] [(.int (9 : Int32)), (.ref b), (.ref b)])) _
    refine XS.bipush X131.here hx rfl (hb hby at_71) ?_
    show Steps p.tables e below (T131.setTop (mkF m 73 #[.val (.long q1), .second, .val (.int p2), .val (.int p3), .val (.long v_), .second, .val (.int (Int32.ofNat aN)), .unset, .unset, .unset, .unset] [(.int (90 : Int32)), (.int (9 : Int32)), (.ref b), (.ref b)])) _
    refine st134 _ ?_
    show Steps p.tables e below (T134.setTop (mkF m 74 #[.val (.long q1), .second, .val (.int p2), .val (.int p3), .val (.long v_), .second, .val (.int (Int32.ofNat aN)), .unset, .unset, .unset, .unset] [(.ref b)])) _
    refine XS.dup X134.here hx rfl (hb hby at_74) rfl rfl ?_
    show Steps p.tables e below (T134.setTop (mkF m 75 #[.val (.long q1), .second, .val (.int p2), .val (.int p3), .val (.long v_), .second, .val (.int (Int32.ofNat aN)), .unset, .unset, .unset, .unset] [(.ref b), (.ref b)])) _
    refine XS.bipush X134.here hx rfl (hb hby at_75) ?_
    show Steps p.tables e below (T134.setTop (mkF m 77 #[.val (.long q1), .second, .val (.int p2), .val (.int p3), .val (.long v_), .second, .val (.int (Int32.ofNat aN)), .unset, .unset, .unset, .unset] [(.int (10 : Int32)), (.ref b), (.ref b)])) _
    refine XS.bipush X134.here hx rfl (hb hby at_77) ?_
    show Steps p.tables e below (T134.setTop (mkF m 79 #[.val (.long q1), .second, .val (.int p2), .val (.int p3), .val (.long v_), .second, .val (.int (Int32.ofNat aN)), .unset, .unset, .unset, .unset] [(.int (90 : Int32)), (.int (10 : Int32)), (.ref b), (.ref b)])) _
    refine st137 _ ?_
    show Steps p.tables e below (T137.setTop (mkF m 80 #[.val (.long q1), .second, .val (.int p2), .val (.int p3), .val (.long v_), .second, .val (.int (Int32.ofNat aN)), .unset, .unset, .unset, .unset] [(.ref b)])) _
    refine XS.dup X137.here hx rfl (hb hby at_80) rfl rfl ?_
    show Steps p.tables e below (T137.setTop (mkF m 81 #[.val (.long q1), .second, .val (.int p2), .val (.int p3), .val (.long v_), .second, .val (.int (Int32.ofNat aN)), .unset, .unset, .unset, .unset] [(.ref b), (.ref b)])) _
    refine XS.bipush X137.here hx rfl (hb hby at_81) ?_
    show Steps p.tables e below (T137.setTop (mkF m 83 #[.val (.long q1), .second, .val (.int p2), .val (.int p3), .val (.long v_), .second, .val (.int (Int32.ofNat aN)), .unset, .unset, .unset, .unset] [(.int (11 : Int32)), (.ref b), (.ref b)])) _
    refine XS.bipush X137.here hx rfl (hb hby at_83) ?_
    show Steps p.tables e below (T137.setTop (mkF m 85 #[.val (.long q1), .second, .val (.int p2), .val (.int p3), .val (.long v_), .second, .val (.int (Int32.ofNat aN)), .unset, .unset, .unset, .unset] [(.int (90 : Int32)), (.int (11 : Int32)), (.ref b), (.ref b)])) _
    refine st140 _ ?_
    show Steps p.tables e below (T140.setTop (mkF m 86 #[.val (.long q1), .second, .val (.int p2), .val (.int p3), .val (.long v_), .second, .val (.int (Int32.ofNat aN)), .unset, .unset, .unset, .unset] [(.ref b)])) _
    refine XS.dup X140.here hx rfl (hb hby at_86) rfl rfl ?_
    show Steps p.tables e below (T140.setTop (mkF m 87 #[.val (.long q1), .second, .val (.int p2), .val (.int p3), .val (.long v_), .second, .val (.int (Int32.ofNat aN)), .unset, .unset, .unset, .unset] [(.ref b), (.ref b)])) _
    refine XS.bipush X140.here hx rfl (hb hby at_87) ?_
    show Steps p.tables e below (T140.setTop (mkF m 89 #[.val (.long q1), .second, .val (.int p2), .val (.int p3), .val (.long v_), .second, .val (.int (Int32.ofNat aN)), .unset, .unset, .unset, .unset] [(.int (12 : Int32)), (.ref b), (.ref b)])) _
    refine XS.bipush X140.here hx rfl (hb hby at_89) ?_
    show Steps p.tables e below (T140.setTop (mkF m 91 #[.val (.long q1), .second, .val (.int p2), .val (.int p3), .val (.long v_), .second, .val (.int (Int32.ofNat aN)), .unset, .unset, .unset, .unset] [(.int (90 : Int32)), (.int (12 : Int32)), (.ref b), (.ref b)])) _
    refine st143 _ ?_
    show Steps p.tables e below (T143.setTop (mkF m 92 #[.val (.long q1), .second, .val (.int p2), .val (.int p3), .val (.long v_), .second, .val (.int (Int32.ofNat aN)), .unset, .unset, .unset, .unset] [(.ref b)])) _
    refine XS.dup X143.here hx rfl (hb hby at_92) rfl rfl ?_
    show Steps p.tables e below (T143.setTop (mkF m 93 #[.val (.long q1), .second, .val (.int p2), .val (.int p3), .val (.long v_), .second, .val (.int (Int32.ofNat aN)), .unset, .unset, .unset, .unset] [(.ref b), (.ref b)])) _
    refine XS.bipush X143.here hx rfl (hb hby at_93) ?_
    show Steps p.tables e below (T143.setTop (mkF m 95 #[.val (.long q1), .second, .val (.int p2), .val (.int p3), .val (.long v_), .second, .val (.int (Int32.ofNat aN)), .unset, .unset, .unset, .unset] [(.int (13 : Int32)), (.ref b), (.ref b)])) _
    refine XS.bipush X143.here hx rfl (hb hby at_95) ?_
    show Steps p.tables e below (T143.setTop (mkF m 97 #[.val (.long q1), .second, .val (.int p2), .val (.int p3), .val (.long v_), .second, .val (.int (Int32.ofNat aN)), .unset, .unset, .unset, .unset] [(.int (90 : Int32)), (.int (13 : Int32)), (.ref b), (.ref b)])) _
    refine st146 _ ?_
    show Steps p.tables e below (T146.setTop (mkF m 98 #[.val (.long q1), .second, .val (.int p2), .val (.int p3), .val (.long v_), .second, .val (.int (Int32.ofNat aN)), .unset, .unset, .unset, .unset] [(.ref b)])) _
    refine XS.dup X146.here hx rfl (hb hby at_98) rfl rfl ?_
    show Steps p.tables e below (T146.setTop (mkF m 99 #[.val (.long q1), .second, .val (.int p2), .val (.int p3), .val (.long v_), .second, .val (.int (Int32.ofNat aN)), .unset, .unset, .unset, .unset] [(.ref b), (.ref b)])) _
    refine XS.bipush X146.here hx rfl (hb hby at_99) ?_
    exact k_)
  obtain ⟨cl149, Ar149, qk149, Sz149, Ng149, Hs149, Gs149⟩ := V_b_146
  have hin149 : ¬ ((14 : Int32) < 0 ∨ cl149.slots.size ≤ ((14 : Int32)).toNatClampNeg) := inb_of Sz149 ⟨by decide, by decide⟩
  obtain ⟨T150, h150, X150, e150, W150, st150⟩ := stB X146 hx hZ e146 Ar149 (j := (14 : Int32)) hin149 (g := (mkF m 103 #[.val (.long q1), .second, .val (.int p2), .val (.int p3), .val (.long v_), .second, .val (.int (Int32.ofNat aN)), .unset, .unset, .unset, .unset] [(.int (90 : Int32)), (.int (14 : Int32)), (.ref b), (.ref b)])) rfl rfl (hb hby at_103)
  have V_b_150 : Arv Z h150 b k_b .byte (20 : Int32) [(.int (nar .byte (90 : Int32))), (.int (nar .byte (90 : Int32))), (.int (nar .byte (90 : Int32))), (.int (nar .byte (90 : Int32))), (.int (nar .byte (90 : Int32))), (.int (nar .byte (90 : Int32))), (.int (nar .byte (90 : Int32))), (.int (nar .byte (90 : Int32))), (.int (nar .byte (90 : Int32))), (.int (nar .byte (90 : Int32))), (.int (nar .byte (90 : Int32))), (.int (nar .byte (90 : Int32))), (.int (nar .byte (90 : Int32))), (.int (nar .byte (90 : Int32))), (.int (nar .byte (90 : Int32))), (.int (0 : Int32)), (.int (0 : Int32)), (.int (0 : Int32)), (.int (0 : Int32)), (.int (0 : Int32))] (.int (0 : Int32)) := Arv.set Ar149 qk149 Sz149 Ng149 Hs149 Gs149 (fits_nar_byte _) W150 14 rfl (Nat.le_of_ble_eq_true rfl)
  have N150 := Fr.snoc X150 N146 g_b
  have Z151 : n0 ≤ h150.size := Nat.le_trans Z147 ((Keep.of_wr W150).1)
  obtain ⟨cl152, Ar152, qk152, Sz152, Ng152, Hs152, Gs152⟩ := V_b_150
  have hin152 : ¬ ((15 : Int32) < 0 ∨ cl152.slots.size ≤ ((15 : Int32)).toNatClampNeg) := inb_of Sz152 ⟨by decide, by decide⟩
  obtain ⟨T153, h153, X153, e153, W153, st153⟩ := stB X150 hx hZ e150 Ar152 (j := (15 : Int32)) hin152 (g := (mkF m 109 #[.val (.long q1), .second, .val (.int p2), .val (.int p3), .val (.long v_), .second, .val (.int (Int32.ofNat aN)), .unset, .unset, .unset, .unset] [(.int (90 : Int32)), (.int (15 : Int32)), (.ref b), (.ref b)])) rfl rfl (hb hby at_109)
  have V_b_153 : Arv Z h153 b k_b .byte (20 : Int32) [(.int (nar .byte (90 : Int32))), (.int (nar .byte (90 : Int32))), (.int (nar .byte (90 : Int32))), (.int (nar .byte (90 : Int32))), (.int (nar .byte (90 : Int32))), (.int (nar .byte (90 : Int32))), (.int (nar .byte (90 : Int32))), (.int (nar .byte (90 : Int32))), (.int (nar .byte (90 : Int32))), (.int (nar .byte (90 : Int32))), (.int (nar .byte (90 : Int32))), (.int (nar .byte (90 : Int32))), (.int (nar .byte (90 : Int32))), (.int (nar .byte (90 : Int32))), (.int (nar .byte (90 : Int32))), (.int (nar .byte (90 : Int32))), (.int (0 : Int32)), (.int (0 : Int32)), (.int (0 : Int32)), (.int (0 : Int32))] (.int (0 : Int32)) := Arv.set Ar152 qk152 Sz152 Ng152 Hs152 Gs152 (fits_nar_byte _) W153 15 rfl (Nat.le_of_ble_eq_true rfl)
  have N153 := Fr.snoc X153 N150 g_b
  have Z154 : n0 ≤ h153.size := Nat.le_trans Z151 ((Keep.of_wr W153).1)
  obtain ⟨cl155, Ar155, qk155, Sz155, Ng155, Hs155, Gs155⟩ := V_b_153
  have hin155 : ¬ ((16 : Int32) < 0 ∨ cl155.slots.size ≤ ((16 : Int32)).toNatClampNeg) := inb_of Sz155 ⟨by decide, by decide⟩
  obtain ⟨T156, h156, X156, e156, W156, st156⟩ := stB X153 hx hZ e153 Ar155 (j := (16 : Int32)) hin155 (g := (mkF m 115 #[.val (.long q1), .second, .val (.int p2), .val (.int p3), .val (.long v_), .second, .val (.int (Int32.ofNat aN)), .unset, .unset, .unset, .unset] [(.int (90 : Int32)), (.int (16 : Int32)), (.ref b), (.ref b)])) rfl rfl (hb hby at_115)
  have V_b_156 : Arv Z h156 b k_b .byte (20 : Int32) [(.int (nar .byte (90 : Int32))), (.int (nar .byte (90 : Int32))), (.int (nar .byte (90 : Int32))), (.int (nar .byte (90 : Int32))), (.int (nar .byte (90 : Int32))), (.int (nar .byte (90 : Int32))), (.int (nar .byte (90 : Int32))), (.int (nar .byte (90 : Int32))), (.int (nar .byte (90 : Int32))), (.int (nar .byte (90 : Int32))), (.int (nar .byte (90 : Int32))), (.int (nar .byte (90 : Int32))), (.int (nar .byte (90 : Int32))), (.int (nar .byte (90 : Int32))), (.int (nar .byte (90 : Int32))), (.int (nar .byte (90 : Int32))), (.int (nar .byte (90 : Int32))), (.int (0 : Int32)), (.int (0 : Int32)), (.int (0 : Int32))] (.int (0 : Int32)) := Arv.set Ar155 qk155 Sz155 Ng155 Hs155 Gs155 (fits_nar_byte _) W156 16 rfl (Nat.le_of_ble_eq_true rfl)
  have N156 := Fr.snoc X156 N153 g_b
  have Z157 : n0 ≤ h156.size := Nat.le_trans Z154 ((Keep.of_wr W156).1)
  obtain ⟨cl158, Ar158, qk158, Sz158, Ng158, Hs158, Gs158⟩ := V_b_156
  have hin158 : ¬ ((17 : Int32) < 0 ∨ cl158.slots.size ≤ ((17 : Int32)).toNatClampNeg) := inb_of Sz158 ⟨by decide, by decide⟩
  obtain ⟨T159, h159, X159, e159, W159, st159⟩ := stB X156 hx hZ e156 Ar158 (j := (17 : Int32)) hin158 (g := (mkF m 121 #[.val (.long q1), .second, .val (.int p2), .val (.int p3), .val (.long v_), .second, .val (.int (Int32.ofNat aN)), .unset, .unset, .unset, .unset] [(.int (90 : Int32)), (.int (17 : Int32)), (.ref b), (.ref b)])) rfl rfl (hb hby at_121)
  have V_b_159 : Arv Z h159 b k_b .byte (20 : Int32) [(.int (nar .byte (90 : Int32))), (.int (nar .byte (90 : Int32))), (.int (nar .byte (90 : Int32))), (.int (nar .byte (90 : Int32))), (.int (nar .byte (90 : Int32))), (.int (nar .byte (90 : Int32))), (.int (nar .byte (90 : Int32))), (.int (nar .byte (90 : Int32))), (.int (nar .byte (90 : Int32))), (.int (nar .byte (90 : Int32))), (.int (nar .byte (90 : Int32))), (.int (nar .byte (90 : Int32))), (.int (nar .byte (90 : Int32))), (.int (nar .byte (90 : Int32))), (.int (nar .byte (90 : Int32))), (.int (nar .byte (90 : Int32))), (.int (nar .byte (90 : Int32))), (.int (nar .byte (90 : Int32))), (.int (0 : Int32)), (.int (0 : Int32))] (.int (0 : Int32)) := Arv.set Ar158 qk158 Sz158 Ng158 Hs158 Gs158 (fits_nar_byte _) W159 17 rfl (Nat.le_of_ble_eq_true rfl)
  have N159 := Fr.snoc X159 N156 g_b
  have Z160 : n0 ≤ h159.size := Nat.le_trans Z157 ((Keep.of_wr W159).1)
  obtain ⟨cl161, Ar161, qk161, Sz161, Ng161, Hs161, Gs161⟩ := V_b_159
  have hin161 : ¬ ((18 : Int32) < 0 ∨ cl161.slots.size ≤ ((18 : Int32)).toNatClampNeg) := inb_of Sz161 ⟨by decide, by decide⟩
  obtain ⟨T162, h162, X162, e162, W162, st162⟩ := stB X159 hx hZ e159 Ar161 (j := (18 : Int32)) hin161 (g := (mkF m 127 #[.val (.long q1), .second, .val (.int p2), .val (.int p3), .val (.long v_), .second, .val (.int (Int32.ofNat aN)), .unset, .unset, .unset, .unset] [(.int (90 : Int32)), (.int (18 : Int32)), (.ref b), (.ref b)])) rfl rfl (hb hby at_127)
  have V_b_162 : Arv Z h162 b k_b .byte (20 : Int32) [(.int (nar .byte (90 : Int32))), (.int (nar .byte (90 : Int32))), (.int (nar .byte (90 : Int32))), (.int (nar .byte (90 : Int32))), (.int (nar .byte (90 : Int32))), (.int (nar .byte (90 : Int32))), (.int (nar .byte (90 : Int32))), (.int (nar .byte (90 : Int32))), (.int (nar .byte (90 : Int32))), (.int (nar .byte (90 : Int32))), (.int (nar .byte (90 : Int32))), (.int (nar .byte (90 : Int32))), (.int (nar .byte (90 : Int32))), (.int (nar .byte (90 : Int32))), (.int (nar .byte (90 : Int32))), (.int (nar .byte (90 : Int32))), (.int (nar .byte (90 : Int32))), (.int (nar .byte (90 : Int32))), (.int (nar .byte (90 : Int32))), (.int (0 : Int32))] (.int (0 : Int32)) := Arv.set Ar161 qk161 Sz161 Ng161 Hs161 Gs161 (fits_nar_byte _) W162 18 rfl (Nat.le_of_ble_eq_true rfl)
  have N162 := Fr.snoc X162 N159 g_b
  have Z163 : n0 ≤ h162.size := Nat.le_trans Z160 ((Keep.of_wr W162).1)
  obtain ⟨cl164, Ar164, qk164, Sz164, Ng164, Hs164, Gs164⟩ := V_b_162
  have hin164 : ¬ ((19 : Int32) < 0 ∨ cl164.slots.size ≤ ((19 : Int32)).toNatClampNeg) := inb_of Sz164 ⟨by decide, by decide⟩
  obtain ⟨T165, h165, X165, e165, W165, st165⟩ := stB X162 hx hZ e162 Ar164 (j := (19 : Int32)) hin164 (g := (mkF m 133 #[.val (.long q1), .second, .val (.int p2), .val (.int p3), .val (.long v_), .second, .val (.int (Int32.ofNat aN)), .unset, .unset, .unset, .unset] [(.int (90 : Int32)), (.int (19 : Int32)), (.ref b), (.ref b)])) rfl rfl (hb hby at_133)
  have V_b_165 : Arv Z h165 b k_b .byte (20 : Int32) [(.int (nar .byte (90 : Int32))), (.int (nar .byte (90 : Int32))), (.int (nar .byte (90 : Int32))), (.int (nar .byte (90 : Int32))), (.int (nar .byte (90 : Int32))), (.int (nar .byte (90 : Int32))), (.int (nar .byte (90 : Int32))), (.int (nar .byte (90 : Int32))), (.int (nar .byte (90 : Int32))), (.int (nar .byte (90 : Int32))), (.int (nar .byte (90 : Int32))), (.int (nar .byte (90 : Int32))), (.int (nar .byte (90 : Int32))), (.int (nar .byte (90 : Int32))), (.int (nar .byte (90 : Int32))), (.int (nar .byte (90 : Int32))), (.int (nar .byte (90 : Int32))), (.int (nar .byte (90 : Int32))), (.int (nar .byte (90 : Int32))), (.int (nar .byte (90 : Int32)))] (.int (0 : Int32)) := Arv.set Ar164 qk164 Sz164 Ng164 Hs164 Gs164 (fits_nar_byte _) W165 19 rfl (Nat.le_of_ble_eq_true rfl)
  have N165 := Fr.snoc X165 N162 g_b
  have Z166 : n0 ≤ h165.size := Nat.le_trans Z163 ((Keep.of_wr W165).1)
  have VA := own_Arstart V_b_165
  obtain ⟨_, _, ⟨T167, L167, k167, n167⟩, -, X167, ⟨Lc167, hQ167, l167, y167, z167⟩, st167⟩ := Jvm.LawKit.callS X165 hx (y := (⟨"com/example/termite/termite/protocol/VarintsWriteUnsignedPinLaw", "groups", "(J)I"⟩ : MethodName)) hown (mvT hZ (hw _ (List.mem_of_getElem? (i := 1) rfl))) (mvT hZ (hw _ (List.mem_of_getElem? (i := 2) rfl))) (mvT hZ (hw _ (List.mem_of_getElem? (i := 3) rfl))) (mvT hZ (hw _ (List.mem_of_getElem? (i := 4) rfl))) (by decide) (backOf (W := 0) (rmG l Z a0 hw [] v_ h165 n0 Z166 ) hZ (hw _ (List.mem_of_getElem? (i := 4) rfl)) (hw _ (List.mem_of_getElem? (i := 3) rfl)) (by decide) (by decide)) (g := (mkF m 138 #[.val (.long q1), .second, .val (.int p2), .val (.int p3), .val (.long v_), .second, .val (.int (Int32.ofNat aN)), .val (.ref b), .unset, .unset, .unset] [(.long v_)])) rfl (by rw [hml]; rfl) (argsL := [(.long v_)]) (rest := []) (lenOf pd_0 rfl) rfl (by show 2 * 0 + _ ≤ _; exact Nat.le_of_eq rfl) (hb hby at_138) (fun _ _ => ⟨rfl, e165, (by decide : 1 + 0 ≤ _), (by decide : 20 + 0 ≤ _)⟩)
  dsimp only [Pt.U, Pt.locs, Pt.cells, Pt.slots] at X167 l167 y167 z167 st167 hQ167
  rw [l167, y167, z167] at X167
  obtain ⟨G, hv167, N167q, e167, g1, g2, g3, g4⟩ := hQ167
  rw [hv167] at st167
  have N167 := Fr.app N165 N167q
  obtain ⟨_, _, ⟨T168, L168, k168, n168⟩, -, X168, ⟨Lc168, hQ168, l168, y168, z168⟩, st168⟩ := Jvm.LawKit.callS X167 hx (y := (⟨"com/example/termite/termite/protocol/Varints", "writeUnsigned", "(J[BI)I"⟩ : MethodName)) hown (mvT hZ (hw _ (List.mem_of_getElem? (i := 5) rfl))) (mvT hZ (hw _ (List.mem_of_getElem? (i := 6) rfl))) (mvT hZ (hw _ (List.mem_of_getElem? (i := 7) rfl))) (mvT hZ (hw _ (List.mem_of_getElem? (i := 8) rfl))) (by decide) (backOf (W := 0) (rmW l Z a0 hw [] v_ b aN h165 n0 Z166 b1 b2 VA g_b) hZ (hw _ (List.mem_of_getElem? (i := 8) rfl)) (hw _ (List.mem_of_getElem? (i := 7) rfl)) (by decide) (by decide)) (g := (mkF m 149 #[.val (.long q1), .second, .val (.int p2), .val (.int p3), .val (.long v_), .second, .val (.int (Int32.ofNat aN)), .val (.ref b), .val (.int (Int32.ofNat G)), .unset, .unset] [(.int (Int32.ofNat aN)), (.ref b), (.long v_)])) rfl (by rw [hml]; rfl) (argsL := [(.long v_), (.ref b), (.int (Int32.ofNat aN))]) (rest := []) (lenOf pd_1 rfl) rfl (by show 2 * 0 + _ ≤ _; exact Nat.le_of_eq rfl) (hb hby at_149) (fun _ _ => ⟨rfl, e167, (by decide : 1 + 0 ≤ _), (by decide : 20 + 0 ≤ _)⟩)
  dsimp only [Pt.U, Pt.locs, Pt.cells, Pt.slots] at X168 l168 y168 z168 st168 hQ168
  rw [l168, y168, z168] at X168
  obtain ⟨mm, hv168, N168q, K168, VB, m1, m2, m3⟩ := hQ168
  rw [hv168] at st168
  have N168 := Fr.app N167 N168q
  have Z169 : n0 ≤ T168.heap.size := Nat.le_trans Z166 (K168.1)
  have eG := own_uniq g1 g3 g4 m2 m3
  have pre170 : ∀ t_, Steps p.tables e below (T168.setTop (mkF m 152 #[.val (.long q1), .second, .val (.int p2), .val (.int p3), .val (.long v_), .second, .val (.int (Int32.ofNat aN)), .val (.ref b), .val (.int (Int32.ofNat G)), .unset, .unset] [(.int (Int32.ofNat (aN + mm + 1)))])) t_ → Steps p.tables e below (s₁.setTop (entryFrame m #[(.long q1), (.int p2), (.int p3)] maxLocals)) t_ := fun t_ k_ => pre148 _ (by
    show Steps p.tables e below (T146.setTop (mkF m 101 #[.val (.long q1), .second, .val (.int p2), .val (.int p3), .val (.long v_), .second, .val (.int (Int32.ofNat aN)), .unset, .unset, .unset, .unset] [(.int (14 : Int32)), (.ref b), (.ref b)])) _
    refine XS.bipush X146.here hx rfl (hb hby at_101) ?_
    show Steps p.tables e below (T146.setTop (mkF m 103 #[.val (.long q1), .second, .val (.int p2), .val (.int p3), .val (.long v_), .second, .val (.int (Int32.ofNat aN)), .unset, .unset, .unset, .unset] [(.int (90 : Int32)), (.int (14 : Int32)), (.ref b), (.ref b)])) _
    refine st150 _ ?_
    show Steps p.tables e below (T150.setTop (mkF m 104 #[.val (.long q1), .second, .val (.int p2), .val (.int p3), .val (.long v_), .second, .val (.int (Int32.ofNat aN)), .unset, .unset, .unset, .unset] [(.ref b)])) _
    refine XS.dup X150.here hx rfl (hb hby at_104) rfl rfl ?_
    show Steps p.tables e below (T150.setTop (mkF m 105 #[.val (.long q1), .second, .val (.int p2), .val (.int p3), .val (.long v_), .second, .val (.int (Int32.ofNat aN)), .unset, .unset, .unset, .unset] [(.ref b), (.ref b)])) _
    refine XS.bipush X150.here hx rfl (hb hby at_105) ?_
    show Steps p.tables e below (T150.setTop (mkF m 107 #[.val (.long q1), .second, .val (.int p2), .val (.int p3), .val (.long v_), .second, .val (.int (Int32.ofNat aN)), .unset, .unset, .unset, .unset] [(.int (15 : Int32)), (.ref b), (.ref b)])) _
    refine XS.bipush X150.here hx rfl (hb hby at_107) ?_
    show Steps p.tables e below (T150.setTop (mkF m 109 #[.val (.long q1), .second, .val (.int p2), .val (.int p3), .val (.long v_), .second, .val (.int (Int32.ofNat aN)), .unset, .unset, .unset, .unset] [(.int (90 : Int32)), (.int (15 : Int32)), (.ref b), (.ref b)])) _
    refine st153 _ ?_
    show Steps p.tables e below (T153.setTop (mkF m 110 #[.val (.long q1), .second, .val (.int p2), .val (.int p3), .val (.long v_), .second, .val (.int (Int32.ofNat aN)), .unset, .unset, .unset, .unset] [(.ref b)])) _
    refine XS.dup X153.here hx rfl (hb hby at_110) rfl rfl ?_
    show Steps p.tables e below (T153.setTop (mkF m 111 #[.val (.long q1), .second, .val (.int p2), .val (.int p3), .val (.long v_), .second, .val (.int (Int32.ofNat aN)), .unset, .unset, .unset, .unset] [(.ref b), (.ref b)])) _
    refine XS.bipush X153.here hx rfl (hb hby at_111) ?_
    show Steps p.tables e below (T153.setTop (mkF m 113 #[.val (.long q1), .second, .val (.int p2), .val (.int p3), .val (.long v_), .second, .val (.int (Int32.ofNat aN)), .unset, .unset, .unset, .unset] [(.int (16 : Int32)), (.ref b), (.ref b)])) _
    refine XS.bipush X153.here hx rfl (hb hby at_113) ?_
    show Steps p.tables e below (T153.setTop (mkF m 115 #[.val (.long q1), .second, .val (.int p2), .val (.int p3), .val (.long v_), .second, .val (.int (Int32.ofNat aN)), .unset, .unset, .unset, .unset] [(.int (90 : Int32)), (.int (16 : Int32)), (.ref b), (.ref b)])) _
    refine st156 _ ?_
    show Steps p.tables e below (T156.setTop (mkF m 116 #[.val (.long q1), .second, .val (.int p2), .val (.int p3), .val (.long v_), .second, .val (.int (Int32.ofNat aN)), .unset, .unset, .unset, .unset] [(.ref b)])) _
    refine XS.dup X156.here hx rfl (hb hby at_116) rfl rfl ?_
    show Steps p.tables e below (T156.setTop (mkF m 117 #[.val (.long q1), .second, .val (.int p2), .val (.int p3), .val (.long v_), .second, .val (.int (Int32.ofNat aN)), .unset, .unset, .unset, .unset] [(.ref b), (.ref b)])) _
    refine XS.bipush X156.here hx rfl (hb hby at_117) ?_
    show Steps p.tables e below (T156.setTop (mkF m 119 #[.val (.long q1), .second, .val (.int p2), .val (.int p3), .val (.long v_), .second, .val (.int (Int32.ofNat aN)), .unset, .unset, .unset, .unset] [(.int (17 : Int32)), (.ref b), (.ref b)])) _
    refine XS.bipush X156.here hx rfl (hb hby at_119) ?_
    show Steps p.tables e below (T156.setTop (mkF m 121 #[.val (.long q1), .second, .val (.int p2), .val (.int p3), .val (.long v_), .second, .val (.int (Int32.ofNat aN)), .unset, .unset, .unset, .unset] [(.int (90 : Int32)), (.int (17 : Int32)), (.ref b), (.ref b)])) _
    refine st159 _ ?_
    show Steps p.tables e below (T159.setTop (mkF m 122 #[.val (.long q1), .second, .val (.int p2), .val (.int p3), .val (.long v_), .second, .val (.int (Int32.ofNat aN)), .unset, .unset, .unset, .unset] [(.ref b)])) _
    refine XS.dup X159.here hx rfl (hb hby at_122) rfl rfl ?_
    show Steps p.tables e below (T159.setTop (mkF m 123 #[.val (.long q1), .second, .val (.int p2), .val (.int p3), .val (.long v_), .second, .val (.int (Int32.ofNat aN)), .unset, .unset, .unset, .unset] [(.ref b), (.ref b)])) _
    refine XS.bipush X159.here hx rfl (hb hby at_123) ?_
    show Steps p.tables e below (T159.setTop (mkF m 125 #[.val (.long q1), .second, .val (.int p2), .val (.int p3), .val (.long v_), .second, .val (.int (Int32.ofNat aN)), .unset, .unset, .unset, .unset] [(.int (18 : Int32)), (.ref b), (.ref b)])) _
    refine XS.bipush X159.here hx rfl (hb hby at_125) ?_
    show Steps p.tables e below (T159.setTop (mkF m 127 #[.val (.long q1), .second, .val (.int p2), .val (.int p3), .val (.long v_), .second, .val (.int (Int32.ofNat aN)), .unset, .unset, .unset, .unset] [(.int (90 : Int32)), (.int (18 : Int32)), (.ref b), (.ref b)])) _
    refine st162 _ ?_
    show Steps p.tables e below (T162.setTop (mkF m 128 #[.val (.long q1), .second, .val (.int p2), .val (.int p3), .val (.long v_), .second, .val (.int (Int32.ofNat aN)), .unset, .unset, .unset, .unset] [(.ref b)])) _
    refine XS.dup X162.here hx rfl (hb hby at_128) rfl rfl ?_
    show Steps p.tables e below (T162.setTop (mkF m 129 #[.val (.long q1), .second, .val (.int p2), .val (.int p3), .val (.long v_), .second, .val (.int (Int32.ofNat aN)), .unset, .unset, .unset, .unset] [(.ref b), (.ref b)])) _
    refine XS.bipush X162.here hx rfl (hb hby at_129) ?_
    show Steps p.tables e below (T162.setTop (mkF m 131 #[.val (.long q1), .second, .val (.int p2), .val (.int p3), .val (.long v_), .second, .val (.int (Int32.ofNat aN)), .unset, .unset, .unset, .unset] [(.int (19 : Int32)), (.ref b), (.ref b)])) _
    refine XS.bipush X162.here hx rfl (hb hby at_131) ?_
    show Steps p.tables e below (T162.setTop (mkF m 133 #[.val (.long q1), .second, .val (.int p2), .val (.int p3), .val (.long v_), .second, .val (.int (Int32.ofNat aN)), .unset, .unset, .unset, .unset] [(.int (90 : Int32)), (.int (19 : Int32)), (.ref b), (.ref b)])) _
    refine st165 _ ?_
    show Steps p.tables e below (T165.setTop (mkF m 134 #[.val (.long q1), .second, .val (.int p2), .val (.int p3), .val (.long v_), .second, .val (.int (Int32.ofNat aN)), .unset, .unset, .unset, .unset] [(.ref b)])) _
    refine XS.astore X165.here hx rfl (hb hby at_134) rfl rfl (l' := #[.val (.long q1), .second, .val (.int p2), .val (.int p3), .val (.long v_), .second, .val (.int (Int32.ofNat aN)), .val (.ref b), .unset, .unset, .unset]) rfl ?_
    show Steps p.tables e below (T165.setTop (mkF m 136 #[.val (.long q1), .second, .val (.int p2), .val (.int p3), .val (.long v_), .second, .val (.int (Int32.ofNat aN)), .val (.ref b), .unset, .unset, .unset] [])) _
    refine XS.lload X165.here hx rfl (hb hby at_136) rfl ?_
    show Steps p.tables e below (T165.setTop (mkF m 138 #[.val (.long q1), .second, .val (.int p2), .val (.int p3), .val (.long v_), .second, .val (.int (Int32.ofNat aN)), .val (.ref b), .unset, .unset, .unset] [(.long v_)])) _
    refine st167 _ ?_
    show Steps p.tables e below (T167.setTop (mkF m 141 #[.val (.long q1), .second, .val (.int p2), .val (.int p3), .val (.long v_), .second, .val (.int (Int32.ofNat aN)), .val (.ref b), .unset, .unset, .unset] [(.int (Int32.ofNat G))])) _
    refine XS.istore X167.here hx rfl (hb hby at_141) rfl (l' := #[.val (.long q1), .second, .val (.int p2), .val (.int p3), .val (.long v_), .second, .val (.int (Int32.ofNat aN)), .val (.ref b), .val (.int (Int32.ofNat G)), .unset, .unset]) rfl ?_
    show Steps p.tables e below (T167.setTop (mkF m 143 #[.val (.long q1), .second, .val (.int p2), .val (.int p3), .val (.long v_), .second, .val (.int (Int32.ofNat aN)), .val (.ref b), .val (.int (Int32.ofNat G)), .unset, .unset] [])) _
    refine XS.lload X167.here hx rfl (hb hby at_143) rfl ?_
    show Steps p.tables e below (T167.setTop (mkF m 145 #[.val (.long q1), .second, .val (.int p2), .val (.int p3), .val (.long v_), .second, .val (.int (Int32.ofNat aN)), .val (.ref b), .val (.int (Int32.ofNat G)), .unset, .unset] [(.long v_)])) _
    refine XS.aload X167.here hx rfl (hb hby at_145) rfl rfl ?_
    show Steps p.tables e below (T167.setTop (mkF m 147 #[.val (.long q1), .second, .val (.int p2), .val (.int p3), .val (.long v_), .second, .val (.int (Int32.ofNat aN)), .val (.ref b), .val (.int (Int32.ofNat G)), .unset, .unset] [(.ref b), (.long v_)])) _
    refine XS.iload X167.here hx rfl (hb hby at_147) rfl ?_
    show Steps p.tables e below (T167.setTop (mkF m 149 #[.val (.long q1), .second, .val (.int p2), .val (.int p3), .val (.long v_), .second, .val (.int (Int32.ofNat aN)), .val (.ref b), .val (.int (Int32.ofNat G)), .unset, .unset] [(.int (Int32.ofNat aN)), (.ref b), (.long v_)])) _
    refine st168 _ ?_
    exact k_)
  obtain ⟨_, _, ⟨T171, L171, k171, n171⟩, -, X171, ⟨Lc171, hQ171, l171, y171, z171⟩, st171⟩ := Jvm.LawKit.callS X168 hx (y := (⟨"com/example/termite/termite/protocol/VarintsWriteUnsignedPinLaw", "cell", "([BIIJI)Z"⟩ : MethodName)) hown (mvT hZ (hw _ (List.mem_of_getElem? (i := 10) rfl))) (mvT hZ (hw _ (List.mem_of_getElem? (i := 11) rfl))) (mvT hZ (hw _ (List.mem_of_getElem? (i := 3) rfl))) (mvT hZ (hw _ (List.mem_of_getElem? (i := 12) rfl))) (by decide) (backOf (W := 0) (rmCg l Z a0 hw [] b v_ 0 aN mm G T168.heap n0 Z169 eG (by decide) b1 b2 m1 m2 VB) hZ (hw _ (List.mem_of_getElem? (i := 12) rfl)) (hw _ (List.mem_of_getElem? (i := 3) rfl)) (by decide) (by decide)) (g := (mkF m 185 #[.val (.long q1), .second, .val (.int p2), .val (.int p3), .val (.long v_), .second, .val (.int (Int32.ofNat aN)), .val (.ref b), .val (.int (Int32.ofNat G)), .val (.int (Int32.ofNat (aN + mm + 1))), .val (.int (1 : Int32))] [(.int (Int32.ofNat G)), (.long v_), (.int (Int32.ofNat aN)), (.int (0 : Int32)), (.ref b)])) rfl (by rw [hml]; rfl) (argsL := [(.ref b), (.int (0 : Int32)), (.int (Int32.ofNat aN)), (.long v_), (.int (Int32.ofNat G))]) (rest := []) (lenOf pd_2 rfl) rfl (by show 2 * 0 + _ ≤ _; exact Nat.le_of_eq rfl) (hb hby at_185) (fun _ _ => ⟨rfl, rfl, (by decide : 1 + 0 ≤ _), (by decide : 20 + 0 ≤ _)⟩)
  dsimp only [Pt.U, Pt.locs, Pt.cells, Pt.slots] at X171 l171 y171 z171 st171 hQ171
  rw [l171, y171, z171] at X171
  obtain ⟨hv171, N171q, e171⟩ := hQ171
  rw [hv171] at st171
  have N171 := Fr.app N168 N171q
  obtain ⟨_, _, ⟨T172, L172, k172, n172⟩, -, X172, ⟨Lc172, hQ172, l172, y172, z172⟩, st172⟩ := Jvm.LawKit.callS X171 hx (y := (⟨"com/example/termite/termite/protocol/VarintsWriteUnsignedPinLaw", "cell", "([BIIJI)Z"⟩ : MethodName)) hown (mvT hZ (hw _ (List.mem_of_getElem? (i := 10) rfl))) (mvT hZ (hw _ (List.mem_of_getElem? (i := 11) rfl))) (mvT hZ (hw _ (List.mem_of_getElem? (i := 3) rfl))) (mvT hZ (hw _ (List.mem_of_getElem? (i := 12) rfl))) (by decide) (backOf (W := 0) (rmCg l Z a0 hw [] b v_ 1 aN mm G T168.heap n0 Z169 eG (by decide) b1 b2 m1 m2 VB) hZ (hw _ (List.mem_of_getElem? (i := 12) rfl)) (hw _ (List.mem_of_getElem? (i := 3) rfl)) (by decide) (by decide)) (g := (mkF m 212 #[.val (.long q1), .second, .val (.int p2), .val (.int p3), .val (.long v_), .second, .val (.int (Int32.ofNat aN)), .val (.ref b), .val (.int (Int32.ofNat G)), .val (.int (Int32.ofNat (aN + mm + 1))), .val (.int (1 : Int32))] [(.int (Int32.ofNat G)), (.long v_), (.int (Int32.ofNat aN)), (.int (1 : Int32)), (.ref b)])) rfl (by rw [hml]; rfl) (argsL := [(.ref b), (.int (1 : Int32)), (.int (Int32.ofNat aN)), (.long v_), (.int (Int32.ofNat G))]) (rest := []) (lenOf pd_2 rfl) rfl (by show 2 * 0 + _ ≤ _; exact Nat.le_of_eq rfl) (hb hby at_212) (fun _ _ => ⟨rfl, e171, (by decide : 1 + 0 ≤ _), (by decide : 20 + 0 ≤ _)⟩)
  dsimp only [Pt.U, Pt.locs, Pt.cells, Pt.slots] at X172 l172 y172 z172 st172 hQ172
  rw [l172, y172, z172] at X172
  obtain ⟨hv172, N172q, e172⟩ := hQ172
  rw [hv172] at st172
  have N172 := Fr.app N171 N172q
  have pre173 : ∀ t_, Steps p.tables e below (T172.setTop (mkF m 218 #[.val (.long q1), .second, .val (.int p2), .val (.int p3), .val (.long v_), .second, .val (.int (Int32.ofNat aN)), .val (.ref b), .val (.int (Int32.ofNat G)), .val (.int (Int32.ofNat (aN + mm + 1))), .val (.int (1 : Int32))] [])) t_ → Steps p.tables e below (s₁.setTop (entryFrame m #[(.long q1), (.int p2), (.int p3)] maxLocals)) t_ := fun t_ k_ => pre170 _ (by
    show Steps p.tables e below (T168.setTop (mkF m 152 #[.val (.long q1), .second, .val (.int p2), .val (.int p3), .val (.long v_), .second, .val (.int (Int32.ofNat aN)), .val (.ref b), .val (.int (Int32.ofNat G)), .unset, .unset] [(.int (Int32.ofNat (aN + mm + 1)))])) _
    refine XS.istore X168.here hx rfl (hb hby at_152) rfl (l' := #[.val (.long q1), .second, .val (.int p2), .val (.int p3), .val (.long v_), .second, .val (.int (Int32.ofNat aN)), .val (.ref b), .val (.int (Int32.ofNat G)), .val (.int (Int32.ofNat (aN + mm + 1))), .unset]) rfl ?_
    show Steps p.tables e below (T168.setTop (mkF m 154 #[.val (.long q1), .second, .val (.int p2), .val (.int p3), .val (.long v_), .second, .val (.int (Int32.ofNat aN)), .val (.ref b), .val (.int (Int32.ofNat G)), .val (.int (Int32.ofNat (aN + mm + 1))), .unset] [])) _
    refine XS.iload X168.here hx rfl (hb hby at_154) rfl ?_
    show Steps p.tables e below (T168.setTop (mkF m 156 #[.val (.long q1), .second, .val (.int p2), .val (.int p3), .val (.long v_), .second, .val (.int (Int32.ofNat aN)), .val (.ref b), .val (.int (Int32.ofNat G)), .val (.int (Int32.ofNat (aN + mm + 1))), .unset] [(.int (Int32.ofNat (aN + mm + 1)))])) _
    refine XS.iload X168.here hx rfl (hb hby at_156) rfl ?_
    show Steps p.tables e below (T168.setTop (mkF m 158 #[.val (.long q1), .second, .val (.int p2), .val (.int p3), .val (.long v_), .second, .val (.int (Int32.ofNat aN)), .val (.ref b), .val (.int (Int32.ofNat G)), .val (.int (Int32.ofNat (aN + mm + 1))), .unset] [(.int (Int32.ofNat aN)), (.int (Int32.ofNat (aN + mm + 1)))])) _
    refine XS.iload X168.here hx rfl (hb hby at_158) rfl ?_
    show Steps p.tables e below (T168.setTop (mkF m 160 #[.val (.long q1), .second, .val (.int p2), .val (.int p3), .val (.long v_), .second, .val (.int (Int32.ofNat aN)), .val (.ref b), .val (.int (Int32.ofNat G)), .val (.int (Int32.ofNat (aN + mm + 1))), .unset] [(.int (Int32.ofNat G)), (.int (Int32.ofNat aN)), (.int (Int32.ofNat (aN + mm + 1)))])) _
    refine XS.iadd X168.here hx rfl (hb hby at_160) rfl ?_
    show Steps p.tables e below (T168.setTop (mkF m 161 #[.val (.long q1), .second, .val (.int p2), .val (.int p3), .val (.long v_), .second, .val (.int (Int32.ofNat aN)), .val (.ref b), .val (.int (Int32.ofNat G)), .val (.int (Int32.ofNat (aN + mm + 1))), .unset] [(.int ((Int32.ofNat aN) + (Int32.ofNat G))), (.int (Int32.ofNat (aN + mm + 1)))])) _
    refine XS.icmpNo X168.here hx rfl (hb hby at_161) rfl (teq (by rw [eG, own_ofadd]; rfl)).2 ?_
    show Steps p.tables e below (T168.setTop (mkF m 164 #[.val (.long q1), .second, .val (.int p2), .val (.int p3), .val (.long v_), .second, .val (.int (Int32.ofNat aN)), .val (.ref b), .val (.int (Int32.ofNat G)), .val (.int (Int32.ofNat (aN + mm + 1))), .unset] [])) _
    refine XS.iconst X168.here hx rfl (hb hby at_164) ?_
    show Steps p.tables e below (T168.setTop (mkF m 165 #[.val (.long q1), .second, .val (.int p2), .val (.int p3), .val (.long v_), .second, .val (.int (Int32.ofNat aN)), .val (.ref b), .val (.int (Int32.ofNat G)), .val (.int (Int32.ofNat (aN + mm + 1))), .unset] [(.int (1 : Int32))])) _
    refine XS.goto X168.here hx rfl (pc0 := 165) (pc' := 169) rfl (hb hby at_165) (by decide) (by decide) ?_
    show Steps p.tables e below (T168.setTop (mkF m 169 #[.val (.long q1), .second, .val (.int p2), .val (.int p3), .val (.long v_), .second, .val (.int (Int32.ofNat aN)), .val (.ref b), .val (.int (Int32.ofNat G)), .val (.int (Int32.ofNat (aN + mm + 1))), .unset] [(.int (1 : Int32))])) _
    refine XS.istore X168.here hx rfl (hb hby at_169) rfl (l' := #[.val (.long q1), .second, .val (.int p2), .val (.int p3), .val (.long v_), .second, .val (.int (Int32.ofNat aN)), .val (.ref b), .val (.int (Int32.ofNat G)), .val (.int (Int32.ofNat (aN + mm + 1))), .val (.int (1 : Int32))]) rfl ?_
    show Steps p.tables e below (T168.setTop (mkF m 171 #[.val (.long q1), .second, .val (.int p2), .val (.int p3), .val (.long v_), .second, .val (.int (Int32.ofNat aN)), .val (.ref b), .val (.int (Int32.ofNat G)), .val (.int (Int32.ofNat (aN + mm + 1))), .val (.int (1 : Int32))] [])) _
    refine XS.iload X168.here hx rfl (hb hby at_171) rfl ?_
    show Steps p.tables e below (T168.setTop (mkF m 173 #[.val (.long q1), .second, .val (.int p2), .val (.int p3), .val (.long v_), .second, .val (.int (Int32.ofNat aN)), .val (.ref b), .val (.int (Int32.ofNat G)), .val (.int (Int32.ofNat (aN + mm + 1))), .val (.int (1 : Int32))] [(.int (1 : Int32))])) _
    refine XS.ifNo X168.here hx rfl (hb hby at_173) rfl ((if0 _ _).trans (feq (by decide : ¬ (1 : Int32) = 0)).1) ?_
    show Steps p.tables e below (T168.setTop (mkF m 176 #[.val (.long q1), .second, .val (.int p2), .val (.int p3), .val (.long v_), .second, .val (.int (Int32.ofNat aN)), .val (.ref b), .val (.int (Int32.ofNat G)), .val (.int (Int32.ofNat (aN + mm + 1))), .val (.int (1 : Int32))] [])) _
    refine XS.aload X168.here hx rfl (hb hby at_176) rfl rfl ?_
    show Steps p.tables e below (T168.setTop (mkF m 178 #[.val (.long q1), .second, .val (.int p2), .val (.int p3), .val (.long v_), .second, .val (.int (Int32.ofNat aN)), .val (.ref b), .val (.int (Int32.ofNat G)), .val (.int (Int32.ofNat (aN + mm + 1))), .val (.int (1 : Int32))] [(.ref b)])) _
    refine XS.iconst X168.here hx rfl (hb hby at_178) ?_
    show Steps p.tables e below (T168.setTop (mkF m 179 #[.val (.long q1), .second, .val (.int p2), .val (.int p3), .val (.long v_), .second, .val (.int (Int32.ofNat aN)), .val (.ref b), .val (.int (Int32.ofNat G)), .val (.int (Int32.ofNat (aN + mm + 1))), .val (.int (1 : Int32))] [(.int (0 : Int32)), (.ref b)])) _
    refine XS.iload X168.here hx rfl (hb hby at_179) rfl ?_
    show Steps p.tables e below (T168.setTop (mkF m 181 #[.val (.long q1), .second, .val (.int p2), .val (.int p3), .val (.long v_), .second, .val (.int (Int32.ofNat aN)), .val (.ref b), .val (.int (Int32.ofNat G)), .val (.int (Int32.ofNat (aN + mm + 1))), .val (.int (1 : Int32))] [(.int (Int32.ofNat aN)), (.int (0 : Int32)), (.ref b)])) _
    refine XS.lload X168.here hx rfl (hb hby at_181) rfl ?_
    show Steps p.tables e below (T168.setTop (mkF m 183 #[.val (.long q1), .second, .val (.int p2), .val (.int p3), .val (.long v_), .second, .val (.int (Int32.ofNat aN)), .val (.ref b), .val (.int (Int32.ofNat G)), .val (.int (Int32.ofNat (aN + mm + 1))), .val (.int (1 : Int32))] [(.long v_), (.int (Int32.ofNat aN)), (.int (0 : Int32)), (.ref b)])) _
    refine XS.iload X168.here hx rfl (hb hby at_183) rfl ?_
    show Steps p.tables e below (T168.setTop (mkF m 185 #[.val (.long q1), .second, .val (.int p2), .val (.int p3), .val (.long v_), .second, .val (.int (Int32.ofNat aN)), .val (.ref b), .val (.int (Int32.ofNat G)), .val (.int (Int32.ofNat (aN + mm + 1))), .val (.int (1 : Int32))] [(.int (Int32.ofNat G)), (.long v_), (.int (Int32.ofNat aN)), (.int (0 : Int32)), (.ref b)])) _
    refine st171 _ ?_
    show Steps p.tables e below (T171.setTop (mkF m 188 #[.val (.long q1), .second, .val (.int p2), .val (.int p3), .val (.long v_), .second, .val (.int (Int32.ofNat aN)), .val (.ref b), .val (.int (Int32.ofNat G)), .val (.int (Int32.ofNat (aN + mm + 1))), .val (.int (1 : Int32))] [(.int (1 : Int32))])) _
    refine XS.ifNo X171.here hx rfl (hb hby at_188) rfl ((if0 _ _).trans (feq (by decide : ¬ (1 : Int32) = 0)).1) ?_
    show Steps p.tables e below (T171.setTop (mkF m 191 #[.val (.long q1), .second, .val (.int p2), .val (.int p3), .val (.long v_), .second, .val (.int (Int32.ofNat aN)), .val (.ref b), .val (.int (Int32.ofNat G)), .val (.int (Int32.ofNat (aN + mm + 1))), .val (.int (1 : Int32))] [])) _
    refine XS.iconst X171.here hx rfl (hb hby at_191) ?_
    show Steps p.tables e below (T171.setTop (mkF m 192 #[.val (.long q1), .second, .val (.int p2), .val (.int p3), .val (.long v_), .second, .val (.int (Int32.ofNat aN)), .val (.ref b), .val (.int (Int32.ofNat G)), .val (.int (Int32.ofNat (aN + mm + 1))), .val (.int (1 : Int32))] [(.int (1 : Int32))])) _
    refine XS.goto X171.here hx rfl (pc0 := 192) (pc' := 196) rfl (hb hby at_192) (by decide) (by decide) ?_
    show Steps p.tables e below (T171.setTop (mkF m 196 #[.val (.long q1), .second, .val (.int p2), .val (.int p3), .val (.long v_), .second, .val (.int (Int32.ofNat aN)), .val (.ref b), .val (.int (Int32.ofNat G)), .val (.int (Int32.ofNat (aN + mm + 1))), .val (.int (1 : Int32))] [(.int (1 : Int32))])) _
    refine XS.istore X171.here hx rfl (hb hby at_196) rfl (l' := #[.val (.long q1), .second, .val (.int p2), .val (.int p3), .val (.long v_), .second, .val (.int (Int32.ofNat aN)), .val (.ref b), .val (.int (Int32.ofNat G)), .val (.int (Int32.ofNat (aN + mm + 1))), .val (.int (1 : Int32))]) rfl ?_
    show Steps p.tables e below (T171.setTop (mkF m 198 #[.val (.long q1), .second, .val (.int p2), .val (.int p3), .val (.long v_), .second, .val (.int (Int32.ofNat aN)), .val (.ref b), .val (.int (Int32.ofNat G)), .val (.int (Int32.ofNat (aN + mm + 1))), .val (.int (1 : Int32))] [])) _
    refine XS.iload X171.here hx rfl (hb hby at_198) rfl ?_
    show Steps p.tables e below (T171.setTop (mkF m 200 #[.val (.long q1), .second, .val (.int p2), .val (.int p3), .val (.long v_), .second, .val (.int (Int32.ofNat aN)), .val (.ref b), .val (.int (Int32.ofNat G)), .val (.int (Int32.ofNat (aN + mm + 1))), .val (.int (1 : Int32))] [(.int (1 : Int32))])) _
    refine XS.ifNo X171.here hx rfl (hb hby at_200) rfl ((if0 _ _).trans (feq (by decide : ¬ (1 : Int32) = 0)).1) ?_
    show Steps p.tables e below (T171.setTop (mkF m 203 #[.val (.long q1), .second, .val (.int p2), .val (.int p3), .val (.long v_), .second, .val (.int (Int32.ofNat aN)), .val (.ref b), .val (.int (Int32.ofNat G)), .val (.int (Int32.ofNat (aN + mm + 1))), .val (.int (1 : Int32))] [])) _
    refine XS.aload X171.here hx rfl (hb hby at_203) rfl rfl ?_
    show Steps p.tables e below (T171.setTop (mkF m 205 #[.val (.long q1), .second, .val (.int p2), .val (.int p3), .val (.long v_), .second, .val (.int (Int32.ofNat aN)), .val (.ref b), .val (.int (Int32.ofNat G)), .val (.int (Int32.ofNat (aN + mm + 1))), .val (.int (1 : Int32))] [(.ref b)])) _
    refine XS.iconst X171.here hx rfl (hb hby at_205) ?_
    show Steps p.tables e below (T171.setTop (mkF m 206 #[.val (.long q1), .second, .val (.int p2), .val (.int p3), .val (.long v_), .second, .val (.int (Int32.ofNat aN)), .val (.ref b), .val (.int (Int32.ofNat G)), .val (.int (Int32.ofNat (aN + mm + 1))), .val (.int (1 : Int32))] [(.int (1 : Int32)), (.ref b)])) _
    refine XS.iload X171.here hx rfl (hb hby at_206) rfl ?_
    show Steps p.tables e below (T171.setTop (mkF m 208 #[.val (.long q1), .second, .val (.int p2), .val (.int p3), .val (.long v_), .second, .val (.int (Int32.ofNat aN)), .val (.ref b), .val (.int (Int32.ofNat G)), .val (.int (Int32.ofNat (aN + mm + 1))), .val (.int (1 : Int32))] [(.int (Int32.ofNat aN)), (.int (1 : Int32)), (.ref b)])) _
    refine XS.lload X171.here hx rfl (hb hby at_208) rfl ?_
    show Steps p.tables e below (T171.setTop (mkF m 210 #[.val (.long q1), .second, .val (.int p2), .val (.int p3), .val (.long v_), .second, .val (.int (Int32.ofNat aN)), .val (.ref b), .val (.int (Int32.ofNat G)), .val (.int (Int32.ofNat (aN + mm + 1))), .val (.int (1 : Int32))] [(.long v_), (.int (Int32.ofNat aN)), (.int (1 : Int32)), (.ref b)])) _
    refine XS.iload X171.here hx rfl (hb hby at_210) rfl ?_
    show Steps p.tables e below (T171.setTop (mkF m 212 #[.val (.long q1), .second, .val (.int p2), .val (.int p3), .val (.long v_), .second, .val (.int (Int32.ofNat aN)), .val (.ref b), .val (.int (Int32.ofNat G)), .val (.int (Int32.ofNat (aN + mm + 1))), .val (.int (1 : Int32))] [(.int (Int32.ofNat G)), (.long v_), (.int (Int32.ofNat aN)), (.int (1 : Int32)), (.ref b)])) _
    refine st172 _ ?_
    show Steps p.tables e below (T172.setTop (mkF m 215 #[.val (.long q1), .second, .val (.int p2), .val (.int p3), .val (.long v_), .second, .val (.int (Int32.ofNat aN)), .val (.ref b), .val (.int (Int32.ofNat G)), .val (.int (Int32.ofNat (aN + mm + 1))), .val (.int (1 : Int32))] [(.int (1 : Int32))])) _
    refine XS.ifNo X172.here hx rfl (hb hby at_215) rfl ((if0 _ _).trans (feq (by decide : ¬ (1 : Int32) = 0)).1) ?_
    exact k_)
  obtain ⟨_, _, ⟨T174, L174, k174, n174⟩, -, X174, ⟨Lc174, hQ174, l174, y174, z174⟩, st174⟩ := Jvm.LawKit.callS X172 hx (y := (⟨"com/example/termite/termite/protocol/VarintsWriteUnsignedPinLaw", "cell", "([BIIJI)Z"⟩ : MethodName)) hown (mvT hZ (hw _ (List.mem_of_getElem? (i := 10) rfl))) (mvT hZ (hw _ (List.mem_of_getElem? (i := 11) rfl))) (mvT hZ (hw _ (List.mem_of_getElem? (i := 3) rfl))) (mvT hZ (hw _ (List.mem_of_getElem? (i := 12) rfl))) (by decide) (backOf (W := 0) (rmCg l Z a0 hw [] b v_ 2 aN mm G T168.heap n0 Z169 eG (by decide) b1 b2 m1 m2 VB) hZ (hw _ (List.mem_of_getElem? (i := 12) rfl)) (hw _ (List.mem_of_getElem? (i := 3) rfl)) (by decide) (by decide)) (g := (mkF m 239 #[.val (.long q1), .second, .val (.int p2), .val (.int p3), .val (.long v_), .second, .val (.int (Int32.ofNat aN)), .val (.ref b), .val (.int (Int32.ofNat G)), .val (.int (Int32.ofNat (aN + mm + 1))), .val (.int (1 : Int32))] [(.int (Int32.ofNat G)), (.long v_), (.int (Int32.ofNat aN)), (.int (2 : Int32)), (.ref b)])) rfl (by rw [hml]; rfl) (argsL := [(.ref b), (.int (2 : Int32)), (.int (Int32.ofNat aN)), (.long v_), (.int (Int32.ofNat G))]) (rest := []) (lenOf pd_2 rfl) rfl (by show 2 * 0 + _ ≤ _; exact Nat.le_of_eq rfl) (hb hby at_239) (fun _ _ => ⟨rfl, e172, (by decide : 1 + 0 ≤ _), (by decide : 20 + 0 ≤ _)⟩)
  dsimp only [Pt.U, Pt.locs, Pt.cells, Pt.slots] at X174 l174 y174 z174 st174 hQ174
  rw [l174, y174, z174] at X174
  obtain ⟨hv174, N174q, e174⟩ := hQ174
  rw [hv174] at st174
  have N174 := Fr.app N172 N174q
  obtain ⟨_, _, ⟨T175, L175, k175, n175⟩, -, X175, ⟨Lc175, hQ175, l175, y175, z175⟩, st175⟩ := Jvm.LawKit.callS X174 hx (y := (⟨"com/example/termite/termite/protocol/VarintsWriteUnsignedPinLaw", "cell", "([BIIJI)Z"⟩ : MethodName)) hown (mvT hZ (hw _ (List.mem_of_getElem? (i := 10) rfl))) (mvT hZ (hw _ (List.mem_of_getElem? (i := 11) rfl))) (mvT hZ (hw _ (List.mem_of_getElem? (i := 3) rfl))) (mvT hZ (hw _ (List.mem_of_getElem? (i := 12) rfl))) (by decide) (backOf (W := 0) (rmCg l Z a0 hw [] b v_ 3 aN mm G T168.heap n0 Z169 eG (by decide) b1 b2 m1 m2 VB) hZ (hw _ (List.mem_of_getElem? (i := 12) rfl)) (hw _ (List.mem_of_getElem? (i := 3) rfl)) (by decide) (by decide)) (g := (mkF m 266 #[.val (.long q1), .second, .val (.int p2), .val (.int p3), .val (.long v_), .second, .val (.int (Int32.ofNat aN)), .val (.ref b), .val (.int (Int32.ofNat G)), .val (.int (Int32.ofNat (aN + mm + 1))), .val (.int (1 : Int32))] [(.int (Int32.ofNat G)), (.long v_), (.int (Int32.ofNat aN)), (.int (3 : Int32)), (.ref b)])) rfl (by rw [hml]; rfl) (argsL := [(.ref b), (.int (3 : Int32)), (.int (Int32.ofNat aN)), (.long v_), (.int (Int32.ofNat G))]) (rest := []) (lenOf pd_2 rfl) rfl (by show 2 * 0 + _ ≤ _; exact Nat.le_of_eq rfl) (hb hby at_266) (fun _ _ => ⟨rfl, e174, (by decide : 1 + 0 ≤ _), (by decide : 20 + 0 ≤ _)⟩)
  dsimp only [Pt.U, Pt.locs, Pt.cells, Pt.slots] at X175 l175 y175 z175 st175 hQ175
  rw [l175, y175, z175] at X175
  obtain ⟨hv175, N175q, e175⟩ := hQ175
  rw [hv175] at st175
  have N175 := Fr.app N174 N175q
  have pre176 : ∀ t_, Steps p.tables e below (T175.setTop (mkF m 286 #[.val (.long q1), .second, .val (.int p2), .val (.int p3), .val (.long v_), .second, .val (.int (Int32.ofNat aN)), .val (.ref b), .val (.int (Int32.ofNat G)), .val (.int (Int32.ofNat (aN + mm + 1))), .val (.int (1 : Int32))] [(.ref b)])) t_ → Steps p.tables e below (s₁.setTop (entryFrame m #[(.long q1), (.int p2), (.int p3)] maxLocals)) t_ := fun t_ k_ => pre173 _ (by
    show Steps p.tables e below (T172.setTop (mkF m 218 #[.val (.long q1), .second, .val (.int p2), .val (.int p3), .val (.long v_), .second, .val (.int (Int32.ofNat aN)), .val (.ref b), .val (.int (Int32.ofNat G)), .val (.int (Int32.ofNat (aN + mm + 1))), .val (.int (1 : Int32))] [])) _
    refine XS.iconst X172.here hx rfl (hb hby at_218) ?_
    show Steps p.tables e below (T172.setTop (mkF m 219 #[.val (.long q1), .second, .val (.int p2), .val (.int p3), .val (.long v_), .second, .val (.int (Int32.ofNat aN)), .val (.ref b), .val (.int (Int32.ofNat G)), .val (.int (Int32.ofNat (aN + mm + 1))), .val (.int (1 : Int32))] [(.int (1 : Int32))])) _
    refine XS.goto X172.here hx rfl (pc0 := 219) (pc' := 223) rfl (hb hby at_219) (by decide) (by decide) ?_
    show Steps p.tables e below (T172.setTop (mkF m 223 #[.val (.long q1), .second, .val (.int p2), .val (.int p3), .val (.long v_), .second, .val (.int (Int32.ofNat aN)), .val (.ref b), .val (.int (Int32.ofNat G)), .val (.int (Int32.ofNat (aN + mm + 1))), .val (.int (1 : Int32))] [(.int (1 : Int32))])) _
    refine XS.istore X172.here hx rfl (hb hby at_223) rfl (l' := #[.val (.long q1), .second, .val (.int p2), .val (.int p3), .val (.long v_), .second, .val (.int (Int32.ofNat aN)), .val (.ref b), .val (.int (Int32.ofNat G)), .val (.int (Int32.ofNat (aN + mm + 1))), .val (.int (1 : Int32))]) rfl ?_
    show Steps p.tables e below (T172.setTop (mkF m 225 #[.val (.long q1), .second, .val (.int p2), .val (.int p3), .val (.long v_), .second, .val (.int (Int32.ofNat aN)), .val (.ref b), .val (.int (Int32.ofNat G)), .val (.int (Int32.ofNat (aN + mm + 1))), .val (.int (1 : Int32))] [])) _
    refine XS.iload X172.here hx rfl (hb hby at_225) rfl ?_
    show Steps p.tables e below (T172.setTop (mkF m 227 #[.val (.long q1), .second, .val (.int p2), .val (.int p3), .val (.long v_), .second, .val (.int (Int32.ofNat aN)), .val (.ref b), .val (.int (Int32.ofNat G)), .val (.int (Int32.ofNat (aN + mm + 1))), .val (.int (1 : Int32))] [(.int (1 : Int32))])) _
    refine XS.ifNo X172.here hx rfl (hb hby at_227) rfl ((if0 _ _).trans (feq (by decide : ¬ (1 : Int32) = 0)).1) ?_
    show Steps p.tables e below (T172.setTop (mkF m 230 #[.val (.long q1), .second, .val (.int p2), .val (.int p3), .val (.long v_), .second, .val (.int (Int32.ofNat aN)), .val (.ref b), .val (.int (Int32.ofNat G)), .val (.int (Int32.ofNat (aN + mm + 1))), .val (.int (1 : Int32))] [])) _
    refine XS.aload X172.here hx rfl (hb hby at_230) rfl rfl ?_
    show Steps p.tables e below (T172.setTop (mkF m 232 #[.val (.long q1), .second, .val (.int p2), .val (.int p3), .val (.long v_), .second, .val (.int (Int32.ofNat aN)), .val (.ref b), .val (.int (Int32.ofNat G)), .val (.int (Int32.ofNat (aN + mm + 1))), .val (.int (1 : Int32))] [(.ref b)])) _
    refine XS.iconst X172.here hx rfl (hb hby at_232) ?_
    show Steps p.tables e below (T172.setTop (mkF m 233 #[.val (.long q1), .second, .val (.int p2), .val (.int p3), .val (.long v_), .second, .val (.int (Int32.ofNat aN)), .val (.ref b), .val (.int (Int32.ofNat G)), .val (.int (Int32.ofNat (aN + mm + 1))), .val (.int (1 : Int32))] [(.int (2 : Int32)), (.ref b)])) _
    refine XS.iload X172.here hx rfl (hb hby at_233) rfl ?_
    show Steps p.tables e below (T172.setTop (mkF m 235 #[.val (.long q1), .second, .val (.int p2), .val (.int p3), .val (.long v_), .second, .val (.int (Int32.ofNat aN)), .val (.ref b), .val (.int (Int32.ofNat G)), .val (.int (Int32.ofNat (aN + mm + 1))), .val (.int (1 : Int32))] [(.int (Int32.ofNat aN)), (.int (2 : Int32)), (.ref b)])) _
    refine XS.lload X172.here hx rfl (hb hby at_235) rfl ?_
    show Steps p.tables e below (T172.setTop (mkF m 237 #[.val (.long q1), .second, .val (.int p2), .val (.int p3), .val (.long v_), .second, .val (.int (Int32.ofNat aN)), .val (.ref b), .val (.int (Int32.ofNat G)), .val (.int (Int32.ofNat (aN + mm + 1))), .val (.int (1 : Int32))] [(.long v_), (.int (Int32.ofNat aN)), (.int (2 : Int32)), (.ref b)])) _
    refine XS.iload X172.here hx rfl (hb hby at_237) rfl ?_
    show Steps p.tables e below (T172.setTop (mkF m 239 #[.val (.long q1), .second, .val (.int p2), .val (.int p3), .val (.long v_), .second, .val (.int (Int32.ofNat aN)), .val (.ref b), .val (.int (Int32.ofNat G)), .val (.int (Int32.ofNat (aN + mm + 1))), .val (.int (1 : Int32))] [(.int (Int32.ofNat G)), (.long v_), (.int (Int32.ofNat aN)), (.int (2 : Int32)), (.ref b)])) _
    refine st174 _ ?_
    show Steps p.tables e below (T174.setTop (mkF m 242 #[.val (.long q1), .second, .val (.int p2), .val (.int p3), .val (.long v_), .second, .val (.int (Int32.ofNat aN)), .val (.ref b), .val (.int (Int32.ofNat G)), .val (.int (Int32.ofNat (aN + mm + 1))), .val (.int (1 : Int32))] [(.int (1 : Int32))])) _
    refine XS.ifNo X174.here hx rfl (hb hby at_242) rfl ((if0 _ _).trans (feq (by decide : ¬ (1 : Int32) = 0)).1) ?_
    show Steps p.tables e below (T174.setTop (mkF m 245 #[.val (.long q1), .second, .val (.int p2), .val (.int p3), .val (.long v_), .second, .val (.int (Int32.ofNat aN)), .val (.ref b), .val (.int (Int32.ofNat G)), .val (.int (Int32.ofNat (aN + mm + 1))), .val (.int (1 : Int32))] [])) _
    refine XS.iconst X174.here hx rfl (hb hby at_245) ?_
    show Steps p.tables e below (T174.setTop (mkF m 246 #[.val (.long q1), .second, .val (.int p2), .val (.int p3), .val (.long v_), .second, .val (.int (Int32.ofNat aN)), .val (.ref b), .val (.int (Int32.ofNat G)), .val (.int (Int32.ofNat (aN + mm + 1))), .val (.int (1 : Int32))] [(.int (1 : Int32))])) _
    refine XS.goto X174.here hx rfl (pc0 := 246) (pc' := 250) rfl (hb hby at_246) (by decide) (by decide) ?_
    show Steps p.tables e below (T174.setTop (mkF m 250 #[.val (.long q1), .second, .val (.int p2), .val (.int p3), .val (.long v_), .second, .val (.int (Int32.ofNat aN)), .val (.ref b), .val (.int (Int32.ofNat G)), .val (.int (Int32.ofNat (aN + mm + 1))), .val (.int (1 : Int32))] [(.int (1 : Int32))])) _
    refine XS.istore X174.here hx rfl (hb hby at_250) rfl (l' := #[.val (.long q1), .second, .val (.int p2), .val (.int p3), .val (.long v_), .second, .val (.int (Int32.ofNat aN)), .val (.ref b), .val (.int (Int32.ofNat G)), .val (.int (Int32.ofNat (aN + mm + 1))), .val (.int (1 : Int32))]) rfl ?_
    show Steps p.tables e below (T174.setTop (mkF m 252 #[.val (.long q1), .second, .val (.int p2), .val (.int p3), .val (.long v_), .second, .val (.int (Int32.ofNat aN)), .val (.ref b), .val (.int (Int32.ofNat G)), .val (.int (Int32.ofNat (aN + mm + 1))), .val (.int (1 : Int32))] [])) _
    refine XS.iload X174.here hx rfl (hb hby at_252) rfl ?_
    show Steps p.tables e below (T174.setTop (mkF m 254 #[.val (.long q1), .second, .val (.int p2), .val (.int p3), .val (.long v_), .second, .val (.int (Int32.ofNat aN)), .val (.ref b), .val (.int (Int32.ofNat G)), .val (.int (Int32.ofNat (aN + mm + 1))), .val (.int (1 : Int32))] [(.int (1 : Int32))])) _
    refine XS.ifNo X174.here hx rfl (hb hby at_254) rfl ((if0 _ _).trans (feq (by decide : ¬ (1 : Int32) = 0)).1) ?_
    show Steps p.tables e below (T174.setTop (mkF m 257 #[.val (.long q1), .second, .val (.int p2), .val (.int p3), .val (.long v_), .second, .val (.int (Int32.ofNat aN)), .val (.ref b), .val (.int (Int32.ofNat G)), .val (.int (Int32.ofNat (aN + mm + 1))), .val (.int (1 : Int32))] [])) _
    refine XS.aload X174.here hx rfl (hb hby at_257) rfl rfl ?_
    show Steps p.tables e below (T174.setTop (mkF m 259 #[.val (.long q1), .second, .val (.int p2), .val (.int p3), .val (.long v_), .second, .val (.int (Int32.ofNat aN)), .val (.ref b), .val (.int (Int32.ofNat G)), .val (.int (Int32.ofNat (aN + mm + 1))), .val (.int (1 : Int32))] [(.ref b)])) _
    refine XS.iconst X174.here hx rfl (hb hby at_259) ?_
    show Steps p.tables e below (T174.setTop (mkF m 260 #[.val (.long q1), .second, .val (.int p2), .val (.int p3), .val (.long v_), .second, .val (.int (Int32.ofNat aN)), .val (.ref b), .val (.int (Int32.ofNat G)), .val (.int (Int32.ofNat (aN + mm + 1))), .val (.int (1 : Int32))] [(.int (3 : Int32)), (.ref b)])) _
    refine XS.iload X174.here hx rfl (hb hby at_260) rfl ?_
    show Steps p.tables e below (T174.setTop (mkF m 262 #[.val (.long q1), .second, .val (.int p2), .val (.int p3), .val (.long v_), .second, .val (.int (Int32.ofNat aN)), .val (.ref b), .val (.int (Int32.ofNat G)), .val (.int (Int32.ofNat (aN + mm + 1))), .val (.int (1 : Int32))] [(.int (Int32.ofNat aN)), (.int (3 : Int32)), (.ref b)])) _
    refine XS.lload X174.here hx rfl (hb hby at_262) rfl ?_
    show Steps p.tables e below (T174.setTop (mkF m 264 #[.val (.long q1), .second, .val (.int p2), .val (.int p3), .val (.long v_), .second, .val (.int (Int32.ofNat aN)), .val (.ref b), .val (.int (Int32.ofNat G)), .val (.int (Int32.ofNat (aN + mm + 1))), .val (.int (1 : Int32))] [(.long v_), (.int (Int32.ofNat aN)), (.int (3 : Int32)), (.ref b)])) _
    refine XS.iload X174.here hx rfl (hb hby at_264) rfl ?_
    show Steps p.tables e below (T174.setTop (mkF m 266 #[.val (.long q1), .second, .val (.int p2), .val (.int p3), .val (.long v_), .second, .val (.int (Int32.ofNat aN)), .val (.ref b), .val (.int (Int32.ofNat G)), .val (.int (Int32.ofNat (aN + mm + 1))), .val (.int (1 : Int32))] [(.int (Int32.ofNat G)), (.long v_), (.int (Int32.ofNat aN)), (.int (3 : Int32)), (.ref b)])) _
    refine st175 _ ?_
    show Steps p.tables e below (T175.setTop (mkF m 269 #[.val (.long q1), .second, .val (.int p2), .val (.int p3), .val (.long v_), .second, .val (.int (Int32.ofNat aN)), .val (.ref b), .val (.int (Int32.ofNat G)), .val (.int (Int32.ofNat (aN + mm + 1))), .val (.int (1 : Int32))] [(.int (1 : Int32))])) _
    refine XS.ifNo X175.here hx rfl (hb hby at_269) rfl ((if0 _ _).trans (feq (by decide : ¬ (1 : Int32) = 0)).1) ?_
    show Steps p.tables e below (T175.setTop (mkF m 272 #[.val (.long q1), .second, .val (.int p2), .val (.int p3), .val (.long v_), .second, .val (.int (Int32.ofNat aN)), .val (.ref b), .val (.int (Int32.ofNat G)), .val (.int (Int32.ofNat (aN + mm + 1))), .val (.int (1 : Int32))] [])) _
    refine XS.iconst X175.here hx rfl (hb hby at_272) ?_
    show Steps p.tables e below (T175.setTop (mkF m 273 #[.val (.long q1), .second, .val (.int p2), .val (.int p3), .val (.long v_), .second, .val (.int (Int32.ofNat aN)), .val (.ref b), .val (.int (Int32.ofNat G)), .val (.int (Int32.ofNat (aN + mm + 1))), .val (.int (1 : Int32))] [(.int (1 : Int32))])) _
    refine XS.goto X175.here hx rfl (pc0 := 273) (pc' := 277) rfl (hb hby at_273) (by decide) (by decide) ?_
    show Steps p.tables e below (T175.setTop (mkF m 277 #[.val (.long q1), .second, .val (.int p2), .val (.int p3), .val (.long v_), .second, .val (.int (Int32.ofNat aN)), .val (.ref b), .val (.int (Int32.ofNat G)), .val (.int (Int32.ofNat (aN + mm + 1))), .val (.int (1 : Int32))] [(.int (1 : Int32))])) _
    refine XS.istore X175.here hx rfl (hb hby at_277) rfl (l' := #[.val (.long q1), .second, .val (.int p2), .val (.int p3), .val (.long v_), .second, .val (.int (Int32.ofNat aN)), .val (.ref b), .val (.int (Int32.ofNat G)), .val (.int (Int32.ofNat (aN + mm + 1))), .val (.int (1 : Int32))]) rfl ?_
    show Steps p.tables e below (T175.setTop (mkF m 279 #[.val (.long q1), .second, .val (.int p2), .val (.int p3), .val (.long v_), .second, .val (.int (Int32.ofNat aN)), .val (.ref b), .val (.int (Int32.ofNat G)), .val (.int (Int32.ofNat (aN + mm + 1))), .val (.int (1 : Int32))] [])) _
    refine XS.iload X175.here hx rfl (hb hby at_279) rfl ?_
    show Steps p.tables e below (T175.setTop (mkF m 281 #[.val (.long q1), .second, .val (.int p2), .val (.int p3), .val (.long v_), .second, .val (.int (Int32.ofNat aN)), .val (.ref b), .val (.int (Int32.ofNat G)), .val (.int (Int32.ofNat (aN + mm + 1))), .val (.int (1 : Int32))] [(.int (1 : Int32))])) _
    refine XS.ifNo X175.here hx rfl (hb hby at_281) rfl ((if0 _ _).trans (feq (by decide : ¬ (1 : Int32) = 0)).1) ?_
    show Steps p.tables e below (T175.setTop (mkF m 284 #[.val (.long q1), .second, .val (.int p2), .val (.int p3), .val (.long v_), .second, .val (.int (Int32.ofNat aN)), .val (.ref b), .val (.int (Int32.ofNat G)), .val (.int (Int32.ofNat (aN + mm + 1))), .val (.int (1 : Int32))] [])) _
    refine XS.aload X175.here hx rfl (hb hby at_284) rfl rfl ?_
    exact k_)
  obtain ⟨_, _, ⟨T177, L177, k177, n177⟩, -, X177, ⟨Lc177, hQ177, l177, y177, z177⟩, st177⟩ := Jvm.LawKit.callS X175 hx (y := (⟨"com/example/termite/termite/protocol/VarintsWriteUnsignedPinLaw", "cell", "([BIIJI)Z"⟩ : MethodName)) hown (mvT hZ (hw _ (List.mem_of_getElem? (i := 10) rfl))) (mvT hZ (hw _ (List.mem_of_getElem? (i := 11) rfl))) (mvT hZ (hw _ (List.mem_of_getElem? (i := 3) rfl))) (mvT hZ (hw _ (List.mem_of_getElem? (i := 12) rfl))) (by decide) (backOf (W := 0) (rmCg l Z a0 hw [] b v_ 4 aN mm G T168.heap n0 Z169 eG (by decide) b1 b2 m1 m2 VB) hZ (hw _ (List.mem_of_getElem? (i := 12) rfl)) (hw _ (List.mem_of_getElem? (i := 3) rfl)) (by decide) (by decide)) (g := (mkF m 293 #[.val (.long q1), .second, .val (.int p2), .val (.int p3), .val (.long v_), .second, .val (.int (Int32.ofNat aN)), .val (.ref b), .val (.int (Int32.ofNat G)), .val (.int (Int32.ofNat (aN + mm + 1))), .val (.int (1 : Int32))] [(.int (Int32.ofNat G)), (.long v_), (.int (Int32.ofNat aN)), (.int (4 : Int32)), (.ref b)])) rfl (by rw [hml]; rfl) (argsL := [(.ref b), (.int (4 : Int32)), (.int (Int32.ofNat aN)), (.long v_), (.int (Int32.ofNat G))]) (rest := []) (lenOf pd_2 rfl) rfl (by show 2 * 0 + _ ≤ _; exact Nat.le_of_eq rfl) (hb hby at_293) (fun _ _ => ⟨rfl, e175, (by decide : 1 + 0 ≤ _), (by decide : 20 + 0 ≤ _)⟩)
  dsimp only [Pt.U, Pt.locs, Pt.cells, Pt.slots] at X177 l177 y177 z177 st177 hQ177
  rw [l177, y177, z177] at X177
  obtain ⟨hv177, N177q, e177⟩ := hQ177
  rw [hv177] at st177
  have N177 := Fr.app N175 N177q
  obtain ⟨_, _, ⟨T178, L178, k178, n178⟩, -, X178, ⟨Lc178, hQ178, l178, y178, z178⟩, st178⟩ := Jvm.LawKit.callS X177 hx (y := (⟨"com/example/termite/termite/protocol/VarintsWriteUnsignedPinLaw", "cell", "([BIIJI)Z"⟩ : MethodName)) hown (mvT hZ (hw _ (List.mem_of_getElem? (i := 10) rfl))) (mvT hZ (hw _ (List.mem_of_getElem? (i := 11) rfl))) (mvT hZ (hw _ (List.mem_of_getElem? (i := 3) rfl))) (mvT hZ (hw _ (List.mem_of_getElem? (i := 12) rfl))) (by decide) (backOf (W := 0) (rmCg l Z a0 hw [] b v_ 5 aN mm G T168.heap n0 Z169 eG (by decide) b1 b2 m1 m2 VB) hZ (hw _ (List.mem_of_getElem? (i := 12) rfl)) (hw _ (List.mem_of_getElem? (i := 3) rfl)) (by decide) (by decide)) (g := (mkF m 320 #[.val (.long q1), .second, .val (.int p2), .val (.int p3), .val (.long v_), .second, .val (.int (Int32.ofNat aN)), .val (.ref b), .val (.int (Int32.ofNat G)), .val (.int (Int32.ofNat (aN + mm + 1))), .val (.int (1 : Int32))] [(.int (Int32.ofNat G)), (.long v_), (.int (Int32.ofNat aN)), (.int (5 : Int32)), (.ref b)])) rfl (by rw [hml]; rfl) (argsL := [(.ref b), (.int (5 : Int32)), (.int (Int32.ofNat aN)), (.long v_), (.int (Int32.ofNat G))]) (rest := []) (lenOf pd_2 rfl) rfl (by show 2 * 0 + _ ≤ _; exact Nat.le_of_eq rfl) (hb hby at_320) (fun _ _ => ⟨rfl, e177, (by decide : 1 + 0 ≤ _), (by decide : 20 + 0 ≤ _)⟩)
  dsimp only [Pt.U, Pt.locs, Pt.cells, Pt.slots] at X178 l178 y178 z178 st178 hQ178
  rw [l178, y178, z178] at X178
  obtain ⟨hv178, N178q, e178⟩ := hQ178
  rw [hv178] at st178
  have N178 := Fr.app N177 N178q
  obtain ⟨_, _, ⟨T179, L179, k179, n179⟩, -, X179, ⟨Lc179, hQ179, l179, y179, z179⟩, st179⟩ := Jvm.LawKit.callS X178 hx (y := (⟨"com/example/termite/termite/protocol/VarintsWriteUnsignedPinLaw", "cell", "([BIIJI)Z"⟩ : MethodName)) hown (mvT hZ (hw _ (List.mem_of_getElem? (i := 10) rfl))) (mvT hZ (hw _ (List.mem_of_getElem? (i := 11) rfl))) (mvT hZ (hw _ (List.mem_of_getElem? (i := 3) rfl))) (mvT hZ (hw _ (List.mem_of_getElem? (i := 12) rfl))) (by decide) (backOf (W := 0) (rmCg l Z a0 hw [] b v_ 6 aN mm G T168.heap n0 Z169 eG (by decide) b1 b2 m1 m2 VB) hZ (hw _ (List.mem_of_getElem? (i := 12) rfl)) (hw _ (List.mem_of_getElem? (i := 3) rfl)) (by decide) (by decide)) (g := (mkF m 348 #[.val (.long q1), .second, .val (.int p2), .val (.int p3), .val (.long v_), .second, .val (.int (Int32.ofNat aN)), .val (.ref b), .val (.int (Int32.ofNat G)), .val (.int (Int32.ofNat (aN + mm + 1))), .val (.int (1 : Int32))] [(.int (Int32.ofNat G)), (.long v_), (.int (Int32.ofNat aN)), (.int (6 : Int32)), (.ref b)])) rfl (by rw [hml]; rfl) (argsL := [(.ref b), (.int (6 : Int32)), (.int (Int32.ofNat aN)), (.long v_), (.int (Int32.ofNat G))]) (rest := []) (lenOf pd_2 rfl) rfl (by show 2 * 0 + _ ≤ _; exact Nat.le_of_eq rfl) (hb hby at_348) (fun _ _ => ⟨rfl, e178, (by decide : 1 + 0 ≤ _), (by decide : 20 + 0 ≤ _)⟩)
  dsimp only [Pt.U, Pt.locs, Pt.cells, Pt.slots] at X179 l179 y179 z179 st179 hQ179
  rw [l179, y179, z179] at X179
  obtain ⟨hv179, N179q, e179⟩ := hQ179
  rw [hv179] at st179
  have N179 := Fr.app N178 N179q
  have pre180 : ∀ t_, Steps p.tables e below (T179.setTop (mkF m 354 #[.val (.long q1), .second, .val (.int p2), .val (.int p3), .val (.long v_), .second, .val (.int (Int32.ofNat aN)), .val (.ref b), .val (.int (Int32.ofNat G)), .val (.int (Int32.ofNat (aN + mm + 1))), .val (.int (1 : Int32))] [])) t_ → Steps p.tables e below (s₁.setTop (entryFrame m #[(.long q1), (.int p2), (.int p3)] maxLocals)) t_ := fun t_ k_ => pre176 _ (by
    show Steps p.tables e below (T175.setTop (mkF m 286 #[.val (.long q1), .second, .val (.int p2), .val (.int p3), .val (.long v_), .second, .val (.int (Int32.ofNat aN)), .val (.ref b), .val (.int (Int32.ofNat G)), .val (.int (Int32.ofNat (aN + mm + 1))), .val (.int (1 : Int32))] [(.ref b)])) _
    refine XS.iconst X175.here hx rfl (hb hby at_286) ?_
    show Steps p.tables e below (T175.setTop (mkF m 287 #[.val (.long q1), .second, .val (.int p2), .val (.int p3), .val (.long v_), .second, .val (.int (Int32.ofNat aN)), .val (.ref b), .val (.int (Int32.ofNat G)), .val (.int (Int32.ofNat (aN + mm + 1))), .val (.int (1 : Int32))] [(.int (4 : Int32)), (.ref b)])) _
    refine XS.iload X175.here hx rfl (hb hby at_287) rfl ?_
    show Steps p.tables e below (T175.setTop (mkF m 289 #[.val (.long q1), .second, .val (.int p2), .val (.int p3), .val (.long v_), .second, .val (.int (Int32.ofNat aN)), .val (.ref b), .val (.int (Int32.ofNat G)), .val (.int (Int32.ofNat (aN + mm + 1))), .val (.int (1 : Int32))] [(.int (Int32.ofNat aN)), (.int (4 : Int32)), (.ref b)])) _
    refine XS.lload X175.here hx rfl (hb hby at_289) rfl ?_
    show Steps p.tables e below (T175.setTop (mkF m 291 #[.val (.long q1), .second, .val (.int p2), .val (.int p3), .val (.long v_), .second, .val (.int (Int32.ofNat aN)), .val (.ref b), .val (.int (Int32.ofNat G)), .val (.int (Int32.ofNat (aN + mm + 1))), .val (.int (1 : Int32))] [(.long v_), (.int (Int32.ofNat aN)), (.int (4 : Int32)), (.ref b)])) _
    refine XS.iload X175.here hx rfl (hb hby at_291) rfl ?_
    show Steps p.tables e below (T175.setTop (mkF m 293 #[.val (.long q1), .second, .val (.int p2), .val (.int p3), .val (.long v_), .second, .val (.int (Int32.ofNat aN)), .val (.ref b), .val (.int (Int32.ofNat G)), .val (.int (Int32.ofNat (aN + mm + 1))), .val (.int (1 : Int32))] [(.int (Int32.ofNat G)), (.long v_), (.int (Int32.ofNat aN)), (.int (4 : Int32)), (.ref b)])) _
    refine st177 _ ?_
    show Steps p.tables e below (T177.setTop (mkF m 296 #[.val (.long q1), .second, .val (.int p2), .val (.int p3), .val (.long v_), .second, .val (.int (Int32.ofNat aN)), .val (.ref b), .val (.int (Int32.ofNat G)), .val (.int (Int32.ofNat (aN + mm + 1))), .val (.int (1 : Int32))] [(.int (1 : Int32))])) _
    refine XS.ifNo X177.here hx rfl (hb hby at_296) rfl ((if0 _ _).trans (feq (by decide : ¬ (1 : Int32) = 0)).1) ?_
    show Steps p.tables e below (T177.setTop (mkF m 299 #[.val (.long q1), .second, .val (.int p2), .val (.int p3), .val (.long v_), .second, .val (.int (Int32.ofNat aN)), .val (.ref b), .val (.int (Int32.ofNat G)), .val (.int (Int32.ofNat (aN + mm + 1))), .val (.int (1 : Int32))] [])) _
    refine XS.iconst X177.here hx rfl (hb hby at_299) ?_
    show Steps p.tables e below (T177.setTop (mkF m 300 #[.val (.long q1), .second, .val (.int p2), .val (.int p3), .val (.long v_), .second, .val (.int (Int32.ofNat aN)), .val (.ref b), .val (.int (Int32.ofNat G)), .val (.int (Int32.ofNat (aN + mm + 1))), .val (.int (1 : Int32))] [(.int (1 : Int32))])) _
    refine XS.goto X177.here hx rfl (pc0 := 300) (pc' := 304) rfl (hb hby at_300) (by decide) (by decide) ?_
    show Steps p.tables e below (T177.setTop (mkF m 304 #[.val (.long q1), .second, .val (.int p2), .val (.int p3), .val (.long v_), .second, .val (.int (Int32.ofNat aN)), .val (.ref b), .val (.int (Int32.ofNat G)), .val (.int (Int32.ofNat (aN + mm + 1))), .val (.int (1 : Int32))] [(.int (1 : Int32))])) _
    refine XS.istore X177.here hx rfl (hb hby at_304) rfl (l' := #[.val (.long q1), .second, .val (.int p2), .val (.int p3), .val (.long v_), .second, .val (.int (Int32.ofNat aN)), .val (.ref b), .val (.int (Int32.ofNat G)), .val (.int (Int32.ofNat (aN + mm + 1))), .val (.int (1 : Int32))]) rfl ?_
    show Steps p.tables e below (T177.setTop (mkF m 306 #[.val (.long q1), .second, .val (.int p2), .val (.int p3), .val (.long v_), .second, .val (.int (Int32.ofNat aN)), .val (.ref b), .val (.int (Int32.ofNat G)), .val (.int (Int32.ofNat (aN + mm + 1))), .val (.int (1 : Int32))] [])) _
    refine XS.iload X177.here hx rfl (hb hby at_306) rfl ?_
    show Steps p.tables e below (T177.setTop (mkF m 308 #[.val (.long q1), .second, .val (.int p2), .val (.int p3), .val (.long v_), .second, .val (.int (Int32.ofNat aN)), .val (.ref b), .val (.int (Int32.ofNat G)), .val (.int (Int32.ofNat (aN + mm + 1))), .val (.int (1 : Int32))] [(.int (1 : Int32))])) _
    refine XS.ifNo X177.here hx rfl (hb hby at_308) rfl ((if0 _ _).trans (feq (by decide : ¬ (1 : Int32) = 0)).1) ?_
    show Steps p.tables e below (T177.setTop (mkF m 311 #[.val (.long q1), .second, .val (.int p2), .val (.int p3), .val (.long v_), .second, .val (.int (Int32.ofNat aN)), .val (.ref b), .val (.int (Int32.ofNat G)), .val (.int (Int32.ofNat (aN + mm + 1))), .val (.int (1 : Int32))] [])) _
    refine XS.aload X177.here hx rfl (hb hby at_311) rfl rfl ?_
    show Steps p.tables e below (T177.setTop (mkF m 313 #[.val (.long q1), .second, .val (.int p2), .val (.int p3), .val (.long v_), .second, .val (.int (Int32.ofNat aN)), .val (.ref b), .val (.int (Int32.ofNat G)), .val (.int (Int32.ofNat (aN + mm + 1))), .val (.int (1 : Int32))] [(.ref b)])) _
    refine XS.iconst X177.here hx rfl (hb hby at_313) ?_
    show Steps p.tables e below (T177.setTop (mkF m 314 #[.val (.long q1), .second, .val (.int p2), .val (.int p3), .val (.long v_), .second, .val (.int (Int32.ofNat aN)), .val (.ref b), .val (.int (Int32.ofNat G)), .val (.int (Int32.ofNat (aN + mm + 1))), .val (.int (1 : Int32))] [(.int (5 : Int32)), (.ref b)])) _
    refine XS.iload X177.here hx rfl (hb hby at_314) rfl ?_
    show Steps p.tables e below (T177.setTop (mkF m 316 #[.val (.long q1), .second, .val (.int p2), .val (.int p3), .val (.long v_), .second, .val (.int (Int32.ofNat aN)), .val (.ref b), .val (.int (Int32.ofNat G)), .val (.int (Int32.ofNat (aN + mm + 1))), .val (.int (1 : Int32))] [(.int (Int32.ofNat aN)), (.int (5 : Int32)), (.ref b)])) _
    refine XS.lload X177.here hx rfl (hb hby at_316) rfl ?_
    show Steps p.tables e below (T177.setTop (mkF m 318 #[.val (.long q1), .second, .val (.int p2), .val (.int p3), .val (.long v_), .second, .val (.int (Int32.ofNat aN)), .val (.ref b), .val (.int (Int32.ofNat G)), .val (.int (Int32.ofNat (aN + mm + 1))), .val (.int (1 : Int32))] [(.long v_), (.int (Int32.ofNat aN)), (.int (5 : Int32)), (.ref b)])) _
    refine XS.iload X177.here hx rfl (hb hby at_318) rfl ?_
    show Steps p.tables e below (T177.setTop (mkF m 320 #[.val (.long q1), .second, .val (.int p2), .val (.int p3), .val (.long v_), .second, .val (.int (Int32.ofNat aN)), .val (.ref b), .val (.int (Int32.ofNat G)), .val (.int (Int32.ofNat (aN + mm + 1))), .val (.int (1 : Int32))] [(.int (Int32.ofNat G)), (.long v_), (.int (Int32.ofNat aN)), (.int (5 : Int32)), (.ref b)])) _
    refine st178 _ ?_
    show Steps p.tables e below (T178.setTop (mkF m 323 #[.val (.long q1), .second, .val (.int p2), .val (.int p3), .val (.long v_), .second, .val (.int (Int32.ofNat aN)), .val (.ref b), .val (.int (Int32.ofNat G)), .val (.int (Int32.ofNat (aN + mm + 1))), .val (.int (1 : Int32))] [(.int (1 : Int32))])) _
    refine XS.ifNo X178.here hx rfl (hb hby at_323) rfl ((if0 _ _).trans (feq (by decide : ¬ (1 : Int32) = 0)).1) ?_
    show Steps p.tables e below (T178.setTop (mkF m 326 #[.val (.long q1), .second, .val (.int p2), .val (.int p3), .val (.long v_), .second, .val (.int (Int32.ofNat aN)), .val (.ref b), .val (.int (Int32.ofNat G)), .val (.int (Int32.ofNat (aN + mm + 1))), .val (.int (1 : Int32))] [])) _
    refine XS.iconst X178.here hx rfl (hb hby at_326) ?_
    show Steps p.tables e below (T178.setTop (mkF m 327 #[.val (.long q1), .second, .val (.int p2), .val (.int p3), .val (.long v_), .second, .val (.int (Int32.ofNat aN)), .val (.ref b), .val (.int (Int32.ofNat G)), .val (.int (Int32.ofNat (aN + mm + 1))), .val (.int (1 : Int32))] [(.int (1 : Int32))])) _
    refine XS.goto X178.here hx rfl (pc0 := 327) (pc' := 331) rfl (hb hby at_327) (by decide) (by decide) ?_
    show Steps p.tables e below (T178.setTop (mkF m 331 #[.val (.long q1), .second, .val (.int p2), .val (.int p3), .val (.long v_), .second, .val (.int (Int32.ofNat aN)), .val (.ref b), .val (.int (Int32.ofNat G)), .val (.int (Int32.ofNat (aN + mm + 1))), .val (.int (1 : Int32))] [(.int (1 : Int32))])) _
    refine XS.istore X178.here hx rfl (hb hby at_331) rfl (l' := #[.val (.long q1), .second, .val (.int p2), .val (.int p3), .val (.long v_), .second, .val (.int (Int32.ofNat aN)), .val (.ref b), .val (.int (Int32.ofNat G)), .val (.int (Int32.ofNat (aN + mm + 1))), .val (.int (1 : Int32))]) rfl ?_
    show Steps p.tables e below (T178.setTop (mkF m 333 #[.val (.long q1), .second, .val (.int p2), .val (.int p3), .val (.long v_), .second, .val (.int (Int32.ofNat aN)), .val (.ref b), .val (.int (Int32.ofNat G)), .val (.int (Int32.ofNat (aN + mm + 1))), .val (.int (1 : Int32))] [])) _
    refine XS.iload X178.here hx rfl (hb hby at_333) rfl ?_
    show Steps p.tables e below (T178.setTop (mkF m 335 #[.val (.long q1), .second, .val (.int p2), .val (.int p3), .val (.long v_), .second, .val (.int (Int32.ofNat aN)), .val (.ref b), .val (.int (Int32.ofNat G)), .val (.int (Int32.ofNat (aN + mm + 1))), .val (.int (1 : Int32))] [(.int (1 : Int32))])) _
    refine XS.ifNo X178.here hx rfl (hb hby at_335) rfl ((if0 _ _).trans (feq (by decide : ¬ (1 : Int32) = 0)).1) ?_
    show Steps p.tables e below (T178.setTop (mkF m 338 #[.val (.long q1), .second, .val (.int p2), .val (.int p3), .val (.long v_), .second, .val (.int (Int32.ofNat aN)), .val (.ref b), .val (.int (Int32.ofNat G)), .val (.int (Int32.ofNat (aN + mm + 1))), .val (.int (1 : Int32))] [])) _
    refine XS.aload X178.here hx rfl (hb hby at_338) rfl rfl ?_
    show Steps p.tables e below (T178.setTop (mkF m 340 #[.val (.long q1), .second, .val (.int p2), .val (.int p3), .val (.long v_), .second, .val (.int (Int32.ofNat aN)), .val (.ref b), .val (.int (Int32.ofNat G)), .val (.int (Int32.ofNat (aN + mm + 1))), .val (.int (1 : Int32))] [(.ref b)])) _
    refine XS.bipush X178.here hx rfl (hb hby at_340) ?_
    show Steps p.tables e below (T178.setTop (mkF m 342 #[.val (.long q1), .second, .val (.int p2), .val (.int p3), .val (.long v_), .second, .val (.int (Int32.ofNat aN)), .val (.ref b), .val (.int (Int32.ofNat G)), .val (.int (Int32.ofNat (aN + mm + 1))), .val (.int (1 : Int32))] [(.int (6 : Int32)), (.ref b)])) _
    refine XS.iload X178.here hx rfl (hb hby at_342) rfl ?_
    show Steps p.tables e below (T178.setTop (mkF m 344 #[.val (.long q1), .second, .val (.int p2), .val (.int p3), .val (.long v_), .second, .val (.int (Int32.ofNat aN)), .val (.ref b), .val (.int (Int32.ofNat G)), .val (.int (Int32.ofNat (aN + mm + 1))), .val (.int (1 : Int32))] [(.int (Int32.ofNat aN)), (.int (6 : Int32)), (.ref b)])) _
    refine XS.lload X178.here hx rfl (hb hby at_344) rfl ?_
    show Steps p.tables e below (T178.setTop (mkF m 346 #[.val (.long q1), .second, .val (.int p2), .val (.int p3), .val (.long v_), .second, .val (.int (Int32.ofNat aN)), .val (.ref b), .val (.int (Int32.ofNat G)), .val (.int (Int32.ofNat (aN + mm + 1))), .val (.int (1 : Int32))] [(.long v_), (.int (Int32.ofNat aN)), (.int (6 : Int32)), (.ref b)])) _
    refine XS.iload X178.here hx rfl (hb hby at_346) rfl ?_
    show Steps p.tables e below (T178.setTop (mkF m 348 #[.val (.long q1), .second, .val (.int p2), .val (.int p3), .val (.long v_), .second, .val (.int (Int32.ofNat aN)), .val (.ref b), .val (.int (Int32.ofNat G)), .val (.int (Int32.ofNat (aN + mm + 1))), .val (.int (1 : Int32))] [(.int (Int32.ofNat G)), (.long v_), (.int (Int32.ofNat aN)), (.int (6 : Int32)), (.ref b)])) _
    refine st179 _ ?_
    show Steps p.tables e below (T179.setTop (mkF m 351 #[.val (.long q1), .second, .val (.int p2), .val (.int p3), .val (.long v_), .second, .val (.int (Int32.ofNat aN)), .val (.ref b), .val (.int (Int32.ofNat G)), .val (.int (Int32.ofNat (aN + mm + 1))), .val (.int (1 : Int32))] [(.int (1 : Int32))])) _
    refine XS.ifNo X179.here hx rfl (hb hby at_351) rfl ((if0 _ _).trans (feq (by decide : ¬ (1 : Int32) = 0)).1) ?_
    exact k_)
  obtain ⟨_, _, ⟨T181, L181, k181, n181⟩, -, X181, ⟨Lc181, hQ181, l181, y181, z181⟩, st181⟩ := Jvm.LawKit.callS X179 hx (y := (⟨"com/example/termite/termite/protocol/VarintsWriteUnsignedPinLaw", "cell", "([BIIJI)Z"⟩ : MethodName)) hown (mvT hZ (hw _ (List.mem_of_getElem? (i := 10) rfl))) (mvT hZ (hw _ (List.mem_of_getElem? (i := 11) rfl))) (mvT hZ (hw _ (List.mem_of_getElem? (i := 3) rfl))) (mvT hZ (hw _ (List.mem_of_getElem? (i := 12) rfl))) (by decide) (backOf (W := 0) (rmCg l Z a0 hw [] b v_ 7 aN mm G T168.heap n0 Z169 eG (by decide) b1 b2 m1 m2 VB) hZ (hw _ (List.mem_of_getElem? (i := 12) rfl)) (hw _ (List.mem_of_getElem? (i := 3) rfl)) (by decide) (by decide)) (g := (mkF m 376 #[.val (.long q1), .second, .val (.int p2), .val (.int p3), .val (.long v_), .second, .val (.int (Int32.ofNat aN)), .val (.ref b), .val (.int (Int32.ofNat G)), .val (.int (Int32.ofNat (aN + mm + 1))), .val (.int (1 : Int32))] [(.int (Int32.ofNat G)), (.long v_), (.int (Int32.ofNat aN)), (.int (7 : Int32)), (.ref b)])) rfl (by rw [hml]; rfl) (argsL := [(.ref b), (.int (7 : Int32)), (.int (Int32.ofNat aN)), (.long v_), (.int (Int32.ofNat G))]) (rest := []) (lenOf pd_2 rfl) rfl (by show 2 * 0 + _ ≤ _; exact Nat.le_of_eq rfl) (hb hby at_376) (fun _ _ => ⟨rfl, e179, (by decide : 1 + 0 ≤ _), (by decide : 20 + 0 ≤ _)⟩)
  dsimp only [Pt.U, Pt.locs, Pt.cells, Pt.slots] at X181 l181 y181 z181 st181 hQ181
  rw [l181, y181, z181] at X181
  obtain ⟨hv181, N181q, e181⟩ := hQ181
  rw [hv181] at st181
  have N181 := Fr.app N179 N181q
  obtain ⟨_, _, ⟨T182, L182, k182, n182⟩, -, X182, ⟨Lc182, hQ182, l182, y182, z182⟩, st182⟩ := Jvm.LawKit.callS X181 hx (y := (⟨"com/example/termite/termite/protocol/VarintsWriteUnsignedPinLaw", "cell", "([BIIJI)Z"⟩ : MethodName)) hown (mvT hZ (hw _ (List.mem_of_getElem? (i := 10) rfl))) (mvT hZ (hw _ (List.mem_of_getElem? (i := 11) rfl))) (mvT hZ (hw _ (List.mem_of_getElem? (i := 3) rfl))) (mvT hZ (hw _ (List.mem_of_getElem? (i := 12) rfl))) (by decide) (backOf (W := 0) (rmCg l Z a0 hw [] b v_ 8 aN mm G T168.heap n0 Z169 eG (by decide) b1 b2 m1 m2 VB) hZ (hw _ (List.mem_of_getElem? (i := 12) rfl)) (hw _ (List.mem_of_getElem? (i := 3) rfl)) (by decide) (by decide)) (g := (mkF m 404 #[.val (.long q1), .second, .val (.int p2), .val (.int p3), .val (.long v_), .second, .val (.int (Int32.ofNat aN)), .val (.ref b), .val (.int (Int32.ofNat G)), .val (.int (Int32.ofNat (aN + mm + 1))), .val (.int (1 : Int32))] [(.int (Int32.ofNat G)), (.long v_), (.int (Int32.ofNat aN)), (.int (8 : Int32)), (.ref b)])) rfl (by rw [hml]; rfl) (argsL := [(.ref b), (.int (8 : Int32)), (.int (Int32.ofNat aN)), (.long v_), (.int (Int32.ofNat G))]) (rest := []) (lenOf pd_2 rfl) rfl (by show 2 * 0 + _ ≤ _; exact Nat.le_of_eq rfl) (hb hby at_404) (fun _ _ => ⟨rfl, e181, (by decide : 1 + 0 ≤ _), (by decide : 20 + 0 ≤ _)⟩)
  dsimp only [Pt.U, Pt.locs, Pt.cells, Pt.slots] at X182 l182 y182 z182 st182 hQ182
  rw [l182, y182, z182] at X182
  obtain ⟨hv182, N182q, e182⟩ := hQ182
  rw [hv182] at st182
  have N182 := Fr.app N181 N182q
  have pre183 : ∀ t_, Steps p.tables e below (T182.setTop (mkF m 424 #[.val (.long q1), .second, .val (.int p2), .val (.int p3), .val (.long v_), .second, .val (.int (Int32.ofNat aN)), .val (.ref b), .val (.int (Int32.ofNat G)), .val (.int (Int32.ofNat (aN + mm + 1))), .val (.int (1 : Int32))] [(.ref b)])) t_ → Steps p.tables e below (s₁.setTop (entryFrame m #[(.long q1), (.int p2), (.int p3)] maxLocals)) t_ := fun t_ k_ => pre180 _ (by
    show Steps p.tables e below (T179.setTop (mkF m 354 #[.val (.long q1), .second, .val (.int p2), .val (.int p3), .val (.long v_), .second, .val (.int (Int32.ofNat aN)), .val (.ref b), .val (.int (Int32.ofNat G)), .val (.int (Int32.ofNat (aN + mm + 1))), .val (.int (1 : Int32))] [])) _
    refine XS.iconst X179.here hx rfl (hb hby at_354) ?_
    show Steps p.tables e below (T179.setTop (mkF m 355 #[.val (.long q1), .second, .val (.int p2), .val (.int p3), .val (.long v_), .second, .val (.int (Int32.ofNat aN)), .val (.ref b), .val (.int (Int32.ofNat G)), .val (.int (Int32.ofNat (aN + mm + 1))), .val (.int (1 : Int32))] [(.int (1 : Int32))])) _
    refine XS.goto X179.here hx rfl (pc0 := 355) (pc' := 359) rfl (hb hby at_355) (by decide) (by decide) ?_
    show Steps p.tables e below (T179.setTop (mkF m 359 #[.val (.long q1), .second, .val (.int p2), .val (.int p3), .val (.long v_), .second, .val (.int (Int32.ofNat aN)), .val (.ref b), .val (.int (Int32.ofNat G)), .val (.int (Int32.ofNat (aN + mm + 1))), .val (.int (1 : Int32))] [(.int (1 : Int32))])) _
    refine XS.istore X179.here hx rfl (hb hby at_359) rfl (l' := #[.val (.long q1), .second, .val (.int p2), .val (.int p3), .val (.long v_), .second, .val (.int (Int32.ofNat aN)), .val (.ref b), .val (.int (Int32.ofNat G)), .val (.int (Int32.ofNat (aN + mm + 1))), .val (.int (1 : Int32))]) rfl ?_
    show Steps p.tables e below (T179.setTop (mkF m 361 #[.val (.long q1), .second, .val (.int p2), .val (.int p3), .val (.long v_), .second, .val (.int (Int32.ofNat aN)), .val (.ref b), .val (.int (Int32.ofNat G)), .val (.int (Int32.ofNat (aN + mm + 1))), .val (.int (1 : Int32))] [])) _
    refine XS.iload X179.here hx rfl (hb hby at_361) rfl ?_
    show Steps p.tables e below (T179.setTop (mkF m 363 #[.val (.long q1), .second, .val (.int p2), .val (.int p3), .val (.long v_), .second, .val (.int (Int32.ofNat aN)), .val (.ref b), .val (.int (Int32.ofNat G)), .val (.int (Int32.ofNat (aN + mm + 1))), .val (.int (1 : Int32))] [(.int (1 : Int32))])) _
    refine XS.ifNo X179.here hx rfl (hb hby at_363) rfl ((if0 _ _).trans (feq (by decide : ¬ (1 : Int32) = 0)).1) ?_
    show Steps p.tables e below (T179.setTop (mkF m 366 #[.val (.long q1), .second, .val (.int p2), .val (.int p3), .val (.long v_), .second, .val (.int (Int32.ofNat aN)), .val (.ref b), .val (.int (Int32.ofNat G)), .val (.int (Int32.ofNat (aN + mm + 1))), .val (.int (1 : Int32))] [])) _
    refine XS.aload X179.here hx rfl (hb hby at_366) rfl rfl ?_
    show Steps p.tables e below (T179.setTop (mkF m 368 #[.val (.long q1), .second, .val (.int p2), .val (.int p3), .val (.long v_), .second, .val (.int (Int32.ofNat aN)), .val (.ref b), .val (.int (Int32.ofNat G)), .val (.int (Int32.ofNat (aN + mm + 1))), .val (.int (1 : Int32))] [(.ref b)])) _
    refine XS.bipush X179.here hx rfl (hb hby at_368) ?_
    show Steps p.tables e below (T179.setTop (mkF m 370 #[.val (.long q1), .second, .val (.int p2), .val (.int p3), .val (.long v_), .second, .val (.int (Int32.ofNat aN)), .val (.ref b), .val (.int (Int32.ofNat G)), .val (.int (Int32.ofNat (aN + mm + 1))), .val (.int (1 : Int32))] [(.int (7 : Int32)), (.ref b)])) _
    refine XS.iload X179.here hx rfl (hb hby at_370) rfl ?_
    show Steps p.tables e below (T179.setTop (mkF m 372 #[.val (.long q1), .second, .val (.int p2), .val (.int p3), .val (.long v_), .second, .val (.int (Int32.ofNat aN)), .val (.ref b), .val (.int (Int32.ofNat G)), .val (.int (Int32.ofNat (aN + mm + 1))), .val (.int (1 : Int32))] [(.int (Int32.ofNat aN)), (.int (7 : Int32)), (.ref b)])) _
    refine XS.lload X179.here hx rfl (hb hby at_372) rfl ?_
    show Steps p.tables e below (T179.setTop (mkF m 374 #[.val (.long q1), .second, .val (.int p2), .val (.int p3), .val (.long v_), .second, .val (.int (Int32.ofNat aN)), .val (.ref b), .val (.int (Int32.ofNat G)), .val (.int (Int32.ofNat (aN + mm + 1))), .val (.int (1 : Int32))] [(.long v_), (.int (Int32.ofNat aN)), (.int (7 : Int32)), (.ref b)])) _
    refine XS.iload X179.here hx rfl (hb hby at_374) rfl ?_
    show Steps p.tables e below (T179.setTop (mkF m 376 #[.val (.long q1), .second, .val (.int p2), .val (.int p3), .val (.long v_), .second, .val (.int (Int32.ofNat aN)), .val (.ref b), .val (.int (Int32.ofNat G)), .val (.int (Int32.ofNat (aN + mm + 1))), .val (.int (1 : Int32))] [(.int (Int32.ofNat G)), (.long v_), (.int (Int32.ofNat aN)), (.int (7 : Int32)), (.ref b)])) _
    refine st181 _ ?_
    show Steps p.tables e below (T181.setTop (mkF m 379 #[.val (.long q1), .second, .val (.int p2), .val (.int p3), .val (.long v_), .second, .val (.int (Int32.ofNat aN)), .val (.ref b), .val (.int (Int32.ofNat G)), .val (.int (Int32.ofNat (aN + mm + 1))), .val (.int (1 : Int32))] [(.int (1 : Int32))])) _
    refine XS.ifNo X181.here hx rfl (hb hby at_379) rfl ((if0 _ _).trans (feq (by decide : ¬ (1 : Int32) = 0)).1) ?_
    show Steps p.tables e below (T181.setTop (mkF m 382 #[.val (.long q1), .second, .val (.int p2), .val (.int p3), .val (.long v_), .second, .val (.int (Int32.ofNat aN)), .val (.ref b), .val (.int (Int32.ofNat G)), .val (.int (Int32.ofNat (aN + mm + 1))), .val (.int (1 : Int32))] [])) _
    refine XS.iconst X181.here hx rfl (hb hby at_382) ?_
    show Steps p.tables e below (T181.setTop (mkF m 383 #[.val (.long q1), .second, .val (.int p2), .val (.int p3), .val (.long v_), .second, .val (.int (Int32.ofNat aN)), .val (.ref b), .val (.int (Int32.ofNat G)), .val (.int (Int32.ofNat (aN + mm + 1))), .val (.int (1 : Int32))] [(.int (1 : Int32))])) _
    refine XS.goto X181.here hx rfl (pc0 := 383) (pc' := 387) rfl (hb hby at_383) (by decide) (by decide) ?_
    show Steps p.tables e below (T181.setTop (mkF m 387 #[.val (.long q1), .second, .val (.int p2), .val (.int p3), .val (.long v_), .second, .val (.int (Int32.ofNat aN)), .val (.ref b), .val (.int (Int32.ofNat G)), .val (.int (Int32.ofNat (aN + mm + 1))), .val (.int (1 : Int32))] [(.int (1 : Int32))])) _
    refine XS.istore X181.here hx rfl (hb hby at_387) rfl (l' := #[.val (.long q1), .second, .val (.int p2), .val (.int p3), .val (.long v_), .second, .val (.int (Int32.ofNat aN)), .val (.ref b), .val (.int (Int32.ofNat G)), .val (.int (Int32.ofNat (aN + mm + 1))), .val (.int (1 : Int32))]) rfl ?_
    show Steps p.tables e below (T181.setTop (mkF m 389 #[.val (.long q1), .second, .val (.int p2), .val (.int p3), .val (.long v_), .second, .val (.int (Int32.ofNat aN)), .val (.ref b), .val (.int (Int32.ofNat G)), .val (.int (Int32.ofNat (aN + mm + 1))), .val (.int (1 : Int32))] [])) _
    refine XS.iload X181.here hx rfl (hb hby at_389) rfl ?_
    show Steps p.tables e below (T181.setTop (mkF m 391 #[.val (.long q1), .second, .val (.int p2), .val (.int p3), .val (.long v_), .second, .val (.int (Int32.ofNat aN)), .val (.ref b), .val (.int (Int32.ofNat G)), .val (.int (Int32.ofNat (aN + mm + 1))), .val (.int (1 : Int32))] [(.int (1 : Int32))])) _
    refine XS.ifNo X181.here hx rfl (hb hby at_391) rfl ((if0 _ _).trans (feq (by decide : ¬ (1 : Int32) = 0)).1) ?_
    show Steps p.tables e below (T181.setTop (mkF m 394 #[.val (.long q1), .second, .val (.int p2), .val (.int p3), .val (.long v_), .second, .val (.int (Int32.ofNat aN)), .val (.ref b), .val (.int (Int32.ofNat G)), .val (.int (Int32.ofNat (aN + mm + 1))), .val (.int (1 : Int32))] [])) _
    refine XS.aload X181.here hx rfl (hb hby at_394) rfl rfl ?_
    show Steps p.tables e below (T181.setTop (mkF m 396 #[.val (.long q1), .second, .val (.int p2), .val (.int p3), .val (.long v_), .second, .val (.int (Int32.ofNat aN)), .val (.ref b), .val (.int (Int32.ofNat G)), .val (.int (Int32.ofNat (aN + mm + 1))), .val (.int (1 : Int32))] [(.ref b)])) _
    refine XS.bipush X181.here hx rfl (hb hby at_396) ?_
    show Steps p.tables e below (T181.setTop (mkF m 398 #[.val (.long q1), .second, .val (.int p2), .val (.int p3), .val (.long v_), .second, .val (.int (Int32.ofNat aN)), .val (.ref b), .val (.int (Int32.ofNat G)), .val (.int (Int32.ofNat (aN + mm + 1))), .val (.int (1 : Int32))] [(.int (8 : Int32)), (.ref b)])) _
    refine XS.iload X181.here hx rfl (hb hby at_398) rfl ?_
    show Steps p.tables e below (T181.setTop (mkF m 400 #[.val (.long q1), .second, .val (.int p2), .val (.int p3), .val (.long v_), .second, .val (.int (Int32.ofNat aN)), .val (.ref b), .val (.int (Int32.ofNat G)), .val (.int (Int32.ofNat (aN + mm + 1))), .val (.int (1 : Int32))] [(.int (Int32.ofNat aN)), (.int (8 : Int32)), (.ref b)])) _
    refine XS.lload X181.here hx rfl (hb hby at_400) rfl ?_
    show Steps p.tables e below (T181.setTop (mkF m 402 #[.val (.long q1), .second, .val (.int p2), .val (.int p3), .val (.long v_), .second, .val (.int (Int32.ofNat aN)), .val (.ref b), .val (.int (Int32.ofNat G)), .val (.int (Int32.ofNat (aN + mm + 1))), .val (.int (1 : Int32))] [(.long v_), (.int (Int32.ofNat aN)), (.int (8 : Int32)), (.ref b)])) _
    refine XS.iload X181.here hx rfl (hb hby at_402) rfl ?_
    show Steps p.tables e below (T181.setTop (mkF m 404 #[.val (.long q1), .second, .val (.int p2), .val (.int p3), .val (.long v_), .second, .val (.int (Int32.ofNat aN)), .val (.ref b), .val (.int (Int32.ofNat G)), .val (.int (Int32.ofNat (aN + mm + 1))), .val (.int (1 : Int32))] [(.int (Int32.ofNat G)), (.long v_), (.int (Int32.ofNat aN)), (.int (8 : Int32)), (.ref b)])) _
    refine st182 _ ?_
    show Steps p.tables e below (T182.setTop (mkF m 407 #[.val (.long q1), .second, .val (.int p2), .val (.int p3), .val (.long v_), .second, .val (.int (Int32.ofNat aN)), .val (.ref b), .val (.int (Int32.ofNat G)), .val (.int (Int32.ofNat (aN + mm + 1))), .val (.int (1 : Int32))] [(.int (1 : Int32))])) _
    refine XS.ifNo X182.here hx rfl (hb hby at_407) rfl ((if0 _ _).trans (feq (by decide : ¬ (1 : Int32) = 0)).1) ?_
    show Steps p.tables e below (T182.setTop (mkF m 410 #[.val (.long q1), .second, .val (.int p2), .val (.int p3), .val (.long v_), .second, .val (.int (Int32.ofNat aN)), .val (.ref b), .val (.int (Int32.ofNat G)), .val (.int (Int32.ofNat (aN + mm + 1))), .val (.int (1 : Int32))] [])) _
    refine XS.iconst X182.here hx rfl (hb hby at_410) ?_
    show Steps p.tables e below (T182.setTop (mkF m 411 #[.val (.long q1), .second, .val (.int p2), .val (.int p3), .val (.long v_), .second, .val (.int (Int32.ofNat aN)), .val (.ref b), .val (.int (Int32.ofNat G)), .val (.int (Int32.ofNat (aN + mm + 1))), .val (.int (1 : Int32))] [(.int (1 : Int32))])) _
    refine XS.goto X182.here hx rfl (pc0 := 411) (pc' := 415) rfl (hb hby at_411) (by decide) (by decide) ?_
    show Steps p.tables e below (T182.setTop (mkF m 415 #[.val (.long q1), .second, .val (.int p2), .val (.int p3), .val (.long v_), .second, .val (.int (Int32.ofNat aN)), .val (.ref b), .val (.int (Int32.ofNat G)), .val (.int (Int32.ofNat (aN + mm + 1))), .val (.int (1 : Int32))] [(.int (1 : Int32))])) _
    refine XS.istore X182.here hx rfl (hb hby at_415) rfl (l' := #[.val (.long q1), .second, .val (.int p2), .val (.int p3), .val (.long v_), .second, .val (.int (Int32.ofNat aN)), .val (.ref b), .val (.int (Int32.ofNat G)), .val (.int (Int32.ofNat (aN + mm + 1))), .val (.int (1 : Int32))]) rfl ?_
    show Steps p.tables e below (T182.setTop (mkF m 417 #[.val (.long q1), .second, .val (.int p2), .val (.int p3), .val (.long v_), .second, .val (.int (Int32.ofNat aN)), .val (.ref b), .val (.int (Int32.ofNat G)), .val (.int (Int32.ofNat (aN + mm + 1))), .val (.int (1 : Int32))] [])) _
    refine XS.iload X182.here hx rfl (hb hby at_417) rfl ?_
    show Steps p.tables e below (T182.setTop (mkF m 419 #[.val (.long q1), .second, .val (.int p2), .val (.int p3), .val (.long v_), .second, .val (.int (Int32.ofNat aN)), .val (.ref b), .val (.int (Int32.ofNat G)), .val (.int (Int32.ofNat (aN + mm + 1))), .val (.int (1 : Int32))] [(.int (1 : Int32))])) _
    refine XS.ifNo X182.here hx rfl (hb hby at_419) rfl ((if0 _ _).trans (feq (by decide : ¬ (1 : Int32) = 0)).1) ?_
    show Steps p.tables e below (T182.setTop (mkF m 422 #[.val (.long q1), .second, .val (.int p2), .val (.int p3), .val (.long v_), .second, .val (.int (Int32.ofNat aN)), .val (.ref b), .val (.int (Int32.ofNat G)), .val (.int (Int32.ofNat (aN + mm + 1))), .val (.int (1 : Int32))] [])) _
    refine XS.aload X182.here hx rfl (hb hby at_422) rfl rfl ?_
    exact k_)
  obtain ⟨_, _, ⟨T184, L184, k184, n184⟩, -, X184, ⟨Lc184, hQ184, l184, y184, z184⟩, st184⟩ := Jvm.LawKit.callS X182 hx (y := (⟨"com/example/termite/termite/protocol/VarintsWriteUnsignedPinLaw", "cell", "([BIIJI)Z"⟩ : MethodName)) hown (mvT hZ (hw _ (List.mem_of_getElem? (i := 10) rfl))) (mvT hZ (hw _ (List.mem_of_getElem? (i := 11) rfl))) (mvT hZ (hw _ (List.mem_of_getElem? (i := 3) rfl))) (mvT hZ (hw _ (List.mem_of_getElem? (i := 12) rfl))) (by decide) (backOf (W := 0) (rmCg l Z a0 hw [] b v_ 9 aN mm G T168.heap n0 Z169 eG (by decide) b1 b2 m1 m2 VB) hZ (hw _ (List.mem_of_getElem? (i := 12) rfl)) (hw _ (List.mem_of_getElem? (i := 3) rfl)) (by decide) (by decide)) (g := (mkF m 432 #[.val (.long q1), .second, .val (.int p2), .val (.int p3), .val (.long v_), .second, .val (.int (Int32.ofNat aN)), .val (.ref b), .val (.int (Int32.ofNat G)), .val (.int (Int32.ofNat (aN + mm + 1))), .val (.int (1 : Int32))] [(.int (Int32.ofNat G)), (.long v_), (.int (Int32.ofNat aN)), (.int (9 : Int32)), (.ref b)])) rfl (by rw [hml]; rfl) (argsL := [(.ref b), (.int (9 : Int32)), (.int (Int32.ofNat aN)), (.long v_), (.int (Int32.ofNat G))]) (rest := []) (lenOf pd_2 rfl) rfl (by show 2 * 0 + _ ≤ _; exact Nat.le_of_eq rfl) (hb hby at_432) (fun _ _ => ⟨rfl, e182, (by decide : 1 + 0 ≤ _), (by decide : 20 + 0 ≤ _)⟩)
  dsimp only [Pt.U, Pt.locs, Pt.cells, Pt.slots] at X184 l184 y184 z184 st184 hQ184
  rw [l184, y184, z184] at X184
  obtain ⟨hv184, N184q, e184⟩ := hQ184
  rw [hv184] at st184
  have N184 := Fr.app N182 N184q
  obtain ⟨_, _, ⟨T185, L185, k185, n185⟩, -, X185, ⟨Lc185, hQ185, l185, y185, z185⟩, st185⟩ := Jvm.LawKit.callS X184 hx (y := (⟨"com/example/termite/termite/protocol/VarintsWriteUnsignedPinLaw", "cell", "([BIIJI)Z"⟩ : MethodName)) hown (mvT hZ (hw _ (List.mem_of_getElem? (i := 10) rfl))) (mvT hZ (hw _ (List.mem_of_getElem? (i := 11) rfl))) (mvT hZ (hw _ (List.mem_of_getElem? (i := 3) rfl))) (mvT hZ (hw _ (List.mem_of_getElem? (i := 12) rfl))) (by decide) (backOf (W := 0) (rmCg l Z a0 hw [] b v_ 10 aN mm G T168.heap n0 Z169 eG (by decide) b1 b2 m1 m2 VB) hZ (hw _ (List.mem_of_getElem? (i := 12) rfl)) (hw _ (List.mem_of_getElem? (i := 3) rfl)) (by decide) (by decide)) (g := (mkF m 460 #[.val (.long q1), .second, .val (.int p2), .val (.int p3), .val (.long v_), .second, .val (.int (Int32.ofNat aN)), .val (.ref b), .val (.int (Int32.ofNat G)), .val (.int (Int32.ofNat (aN + mm + 1))), .val (.int (1 : Int32))] [(.int (Int32.ofNat G)), (.long v_), (.int (Int32.ofNat aN)), (.int (10 : Int32)), (.ref b)])) rfl (by rw [hml]; rfl) (argsL := [(.ref b), (.int (10 : Int32)), (.int (Int32.ofNat aN)), (.long v_), (.int (Int32.ofNat G))]) (rest := []) (lenOf pd_2 rfl) rfl (by show 2 * 0 + _ ≤ _; exact Nat.le_of_eq rfl) (hb hby at_460) (fun _ _ => ⟨rfl, e184, (by decide : 1 + 0 ≤ _), (by decide : 20 + 0 ≤ _)⟩)
  dsimp only [Pt.U, Pt.locs, Pt.cells, Pt.slots] at X185 l185 y185 z185 st185 hQ185
  rw [l185, y185, z185] at X185
  obtain ⟨hv185, N185q, e185⟩ := hQ185
  rw [hv185] at st185
  have N185 := Fr.app N184 N185q
  obtain ⟨_, _, ⟨T186, L186, k186, n186⟩, -, X186, ⟨Lc186, hQ186, l186, y186, z186⟩, st186⟩ := Jvm.LawKit.callS X185 hx (y := (⟨"com/example/termite/termite/protocol/VarintsWriteUnsignedPinLaw", "cell", "([BIIJI)Z"⟩ : MethodName)) hown (mvT hZ (hw _ (List.mem_of_getElem? (i := 10) rfl))) (mvT hZ (hw _ (List.mem_of_getElem? (i := 11) rfl))) (mvT hZ (hw _ (List.mem_of_getElem? (i := 3) rfl))) (mvT hZ (hw _ (List.mem_of_getElem? (i := 12) rfl))) (by decide) (backOf (W := 0) (rmCg l Z a0 hw [] b v_ 11 aN mm G T168.heap n0 Z169 eG (by decide) b1 b2 m1 m2 VB) hZ (hw _ (List.mem_of_getElem? (i := 12) rfl)) (hw _ (List.mem_of_getElem? (i := 3) rfl)) (by decide) (by decide)) (g := (mkF m 488 #[.val (.long q1), .second, .val (.int p2), .val (.int p3), .val (.long v_), .second, .val (.int (Int32.ofNat aN)), .val (.ref b), .val (.int (Int32.ofNat G)), .val (.int (Int32.ofNat (aN + mm + 1))), .val (.int (1 : Int32))] [(.int (Int32.ofNat G)), (.long v_), (.int (Int32.ofNat aN)), (.int (11 : Int32)), (.ref b)])) rfl (by rw [hml]; rfl) (argsL := [(.ref b), (.int (11 : Int32)), (.int (Int32.ofNat aN)), (.long v_), (.int (Int32.ofNat G))]) (rest := []) (lenOf pd_2 rfl) rfl (by show 2 * 0 + _ ≤ _; exact Nat.le_of_eq rfl) (hb hby at_488) (fun _ _ => ⟨rfl, e185, (by decide : 1 + 0 ≤ _), (by decide : 20 + 0 ≤ _)⟩)
  dsimp only [Pt.U, Pt.locs, Pt.cells, Pt.slots] at X186 l186 y186 z186 st186 hQ186
  rw [l186, y186, z186] at X186
  obtain ⟨hv186, N186q, e186⟩ := hQ186
  rw [hv186] at st186
  have N186 := Fr.app N185 N186q
  have pre187 : ∀ t_, Steps p.tables e below (T186.setTop (mkF m 494 #[.val (.long q1), .second, .val (.int p2), .val (.int p3), .val (.long v_), .second, .val (.int (Int32.ofNat aN)), .val (.ref b), .val (.int (Int32.ofNat G)), .val (.int (Int32.ofNat (aN + mm + 1))), .val (.int (1 : Int32))] [])) t_ → Steps p.tables e below (s₁.setTop (entryFrame m #[(.long q1), (.int p2), (.int p3)] maxLocals)) t_ := fun t_ k_ => pre183 _ (by
    show Steps p.tables e below (T182.setTop (mkF m 424 #[.val (.long q1), .second, .val (.int p2), .val (.int p3), .val (.long v_), .second, .val (.int (Int32.ofNat aN)), .val (.ref b), .val (.int (Int32.ofNat G)), .val (.int (Int32.ofNat (aN + mm + 1))), .val (.int (1 : Int32))] [(.ref b)])) _
    refine XS.bipush X182.here hx rfl (hb hby at_424) ?_
    show Steps p.tables e below (T182.setTop (mkF m 426 #[.val (.long q1), .second, .val (.int p2), .val (.int p3), .val (.long v_), .second, .val (.int (Int32.ofNat aN)), .val (.ref b), .val (.int (Int32.ofNat G)), .val (.int (Int32.ofNat (aN + mm + 1))), .val (.int (1 : Int32))] [(.int (9 : Int32)), (.ref b)])) _
    refine XS.iload X182.here hx rfl (hb hby at_426) rfl ?_
    show Steps p.tables e below (T182.setTop (mkF m 428 #[.val (.long q1), .second, .val (.int p2), .val (.int p3), .val (.long v_), .second, .val (.int (Int32.ofNat aN)), .val (.ref b), .val (.int (Int32.ofNat G)), .val (.int (Int32.ofNat (aN + mm + 1))), .val (.int (1 : Int32))] [(.int (Int32.ofNat aN)), (.int (9 : Int32)), (.ref b)])) _
    refine XS.lload X182.here hx rfl (hb hby at_428) rfl ?_
    show Steps p.tables e below (T182.setTop (mkF m 430 #[.val (.long q1), .second, .val (.int p2), .val (.int p3), .val (.long v_), .second, .val (.int (Int32.ofNat aN)), .val (.ref b), .val (.int (Int32.ofNat G)), .val (.int (Int32.ofNat (aN + mm + 1))), .val (.int (1 : Int32))] [(.long v_), (.int (Int32.ofNat aN)), (.int (9 : Int32)), (.ref b)])) _
    refine XS.iload X182.here hx rfl (hb hby at_430) rfl ?_
    show Steps p.tables e below (T182.setTop (mkF m 432 #[.val (.long q1), .second, .val (.int p2), .val (.int p3), .val (.long v_), .second, .val (.int (Int32.ofNat aN)), .val (.ref b), .val (.int (Int32.ofNat G)), .val (.int (Int32.ofNat (aN + mm + 1))), .val (.int (1 : Int32))] [(.int (Int32.ofNat G)), (.long v_), (.int (Int32.ofNat aN)), (.int (9 : Int32)), (.ref b)])) _
    refine st184 _ ?_
    show Steps p.tables e below (T184.setTop (mkF m 435 #[.val (.long q1), .second, .val (.int p2), .val (.int p3), .val (.long v_), .second, .val (.int (Int32.ofNat aN)), .val (.ref b), .val (.int (Int32.ofNat G)), .val (.int (Int32.ofNat (aN + mm + 1))), .val (.int (1 : Int32))] [(.int (1 : Int32))])) _
    refine XS.ifNo X184.here hx rfl (hb hby at_435) rfl ((if0 _ _).trans (feq (by decide : ¬ (1 : Int32) = 0)).1) ?_
    show Steps p.tables e below (T184.setTop (mkF m 438 #[.val (.long q1), .second, .val (.int p2), .val (.int p3), .val (.long v_), .second, .val (.int (Int32.ofNat aN)), .val (.ref b), .val (.int (Int32.ofNat G)), .val (.int (Int32.ofNat (aN + mm + 1))), .val (.int (1 : Int32))] [])) _
    refine XS.iconst X184.here hx rfl (hb hby at_438) ?_
    show Steps p.tables e below (T184.setTop (mkF m 439 #[.val (.long q1), .second, .val (.int p2), .val (.int p3), .val (.long v_), .second, .val (.int (Int32.ofNat aN)), .val (.ref b), .val (.int (Int32.ofNat G)), .val (.int (Int32.ofNat (aN + mm + 1))), .val (.int (1 : Int32))] [(.int (1 : Int32))])) _
    refine XS.goto X184.here hx rfl (pc0 := 439) (pc' := 443) rfl (hb hby at_439) (by decide) (by decide) ?_
    show Steps p.tables e below (T184.setTop (mkF m 443 #[.val (.long q1), .second, .val (.int p2), .val (.int p3), .val (.long v_), .second, .val (.int (Int32.ofNat aN)), .val (.ref b), .val (.int (Int32.ofNat G)), .val (.int (Int32.ofNat (aN + mm + 1))), .val (.int (1 : Int32))] [(.int (1 : Int32))])) _
    refine XS.istore X184.here hx rfl (hb hby at_443) rfl (l' := #[.val (.long q1), .second, .val (.int p2), .val (.int p3), .val (.long v_), .second, .val (.int (Int32.ofNat aN)), .val (.ref b), .val (.int (Int32.ofNat G)), .val (.int (Int32.ofNat (aN + mm + 1))), .val (.int (1 : Int32))]) rfl ?_
    show Steps p.tables e below (T184.setTop (mkF m 445 #[.val (.long q1), .second, .val (.int p2), .val (.int p3), .val (.long v_), .second, .val (.int (Int32.ofNat aN)), .val (.ref b), .val (.int (Int32.ofNat G)), .val (.int (Int32.ofNat (aN + mm + 1))), .val (.int (1 : Int32))] [])) _
    refine XS.iload X184.here hx rfl (hb hby at_445) rfl ?_
    show Steps p.tables e below (T184.setTop (mkF m 447 #[.val (.long q1), .second, .val (.int p2), .val (.int p3), .val (.long v_), .second, .val (.int (Int32.ofNat aN)), .val (.ref b), .val (.int (Int32.ofNat G)), .val (.int (Int32.ofNat (aN + mm + 1))), .val (.int (1 : Int32))] [(.int (1 : Int32))])) _
    refine XS.ifNo X184.here hx rfl (hb hby at_447) rfl ((if0 _ _).trans (feq (by decide : ¬ (1 : Int32) = 0)).1) ?_
    show Steps p.tables e below (T184.setTop (mkF m 450 #[.val (.long q1), .second, .val (.int p2), .val (.int p3), .val (.long v_), .second, .val (.int (Int32.ofNat aN)), .val (.ref b), .val (.int (Int32.ofNat G)), .val (.int (Int32.ofNat (aN + mm + 1))), .val (.int (1 : Int32))] [])) _
    refine XS.aload X184.here hx rfl (hb hby at_450) rfl rfl ?_
    show Steps p.tables e below (T184.setTop (mkF m 452 #[.val (.long q1), .second, .val (.int p2), .val (.int p3), .val (.long v_), .second, .val (.int (Int32.ofNat aN)), .val (.ref b), .val (.int (Int32.ofNat G)), .val (.int (Int32.ofNat (aN + mm + 1))), .val (.int (1 : Int32))] [(.ref b)])) _
    refine XS.bipush X184.here hx rfl (hb hby at_452) ?_
    show Steps p.tables e below (T184.setTop (mkF m 454 #[.val (.long q1), .second, .val (.int p2), .val (.int p3), .val (.long v_), .second, .val (.int (Int32.ofNat aN)), .val (.ref b), .val (.int (Int32.ofNat G)), .val (.int (Int32.ofNat (aN + mm + 1))), .val (.int (1 : Int32))] [(.int (10 : Int32)), (.ref b)])) _
    refine XS.iload X184.here hx rfl (hb hby at_454) rfl ?_
    show Steps p.tables e below (T184.setTop (mkF m 456 #[.val (.long q1), .second, .val (.int p2), .val (.int p3), .val (.long v_), .second, .val (.int (Int32.ofNat aN)), .val (.ref b), .val (.int (Int32.ofNat G)), .val (.int (Int32.ofNat (aN + mm + 1))), .val (.int (1 : Int32))] [(.int (Int32.ofNat aN)), (.int (10 : Int32)), (.ref b)])) _
    refine XS.lload X184.here hx rfl (hb hby at_456) rfl ?_
    show Steps p.tables e below (T184.setTop (mkF m 458 #[.val (.long q1), .second, .val (.int p2), .val (.int p3), .val (.long v_), .second, .val (.int (Int32.ofNat aN)), .val (.ref b), .val (.int (Int32.ofNat G)), .val (.int (Int32.ofNat (aN + mm + 1))), .val (.int (1 : Int32))] [(.long v_), (.int (Int32.ofNat aN)), (.int (10 : Int32)), (.ref b)])) _
    refine XS.iload X184.here hx rfl (hb hby at_458) rfl ?_
    show Steps p.tables e below (T184.setTop (mkF m 460 #[.val (.long q1), .second, .val (.int p2), .val (.int p3), .val (.long v_), .second, .val (.int (Int32.ofNat aN)), .val (.ref b), .val (.int (Int32.ofNat G)), .val (.int (Int32.ofNat (aN + mm + 1))), .val (.int (1 : Int32))] [(.int (Int32.ofNat G)), (.long v_), (.int (Int32.ofNat aN)), (.int (10 : Int32)), (.ref b)])) _
    refine st185 _ ?_
    show Steps p.tables e below (T185.setTop (mkF m 463 #[.val (.long q1), .second, .val (.int p2), .val (.int p3), .val (.long v_), .second, .val (.int (Int32.ofNat aN)), .val (.ref b), .val (.int (Int32.ofNat G)), .val (.int (Int32.ofNat (aN + mm + 1))), .val (.int (1 : Int32))] [(.int (1 : Int32))])) _
    refine XS.ifNo X185.here hx rfl (hb hby at_463) rfl ((if0 _ _).trans (feq (by decide : ¬ (1 : Int32) = 0)).1) ?_
    show Steps p.tables e below (T185.setTop (mkF m 466 #[.val (.long q1), .second, .val (.int p2), .val (.int p3), .val (.long v_), .second, .val (.int (Int32.ofNat aN)), .val (.ref b), .val (.int (Int32.ofNat G)), .val (.int (Int32.ofNat (aN + mm + 1))), .val (.int (1 : Int32))] [])) _
    refine XS.iconst X185.here hx rfl (hb hby at_466) ?_
    show Steps p.tables e below (T185.setTop (mkF m 467 #[.val (.long q1), .second, .val (.int p2), .val (.int p3), .val (.long v_), .second, .val (.int (Int32.ofNat aN)), .val (.ref b), .val (.int (Int32.ofNat G)), .val (.int (Int32.ofNat (aN + mm + 1))), .val (.int (1 : Int32))] [(.int (1 : Int32))])) _
    refine XS.goto X185.here hx rfl (pc0 := 467) (pc' := 471) rfl (hb hby at_467) (by decide) (by decide) ?_
    show Steps p.tables e below (T185.setTop (mkF m 471 #[.val (.long q1), .second, .val (.int p2), .val (.int p3), .val (.long v_), .second, .val (.int (Int32.ofNat aN)), .val (.ref b), .val (.int (Int32.ofNat G)), .val (.int (Int32.ofNat (aN + mm + 1))), .val (.int (1 : Int32))] [(.int (1 : Int32))])) _
    refine XS.istore X185.here hx rfl (hb hby at_471) rfl (l' := #[.val (.long q1), .second, .val (.int p2), .val (.int p3), .val (.long v_), .second, .val (.int (Int32.ofNat aN)), .val (.ref b), .val (.int (Int32.ofNat G)), .val (.int (Int32.ofNat (aN + mm + 1))), .val (.int (1 : Int32))]) rfl ?_
    show Steps p.tables e below (T185.setTop (mkF m 473 #[.val (.long q1), .second, .val (.int p2), .val (.int p3), .val (.long v_), .second, .val (.int (Int32.ofNat aN)), .val (.ref b), .val (.int (Int32.ofNat G)), .val (.int (Int32.ofNat (aN + mm + 1))), .val (.int (1 : Int32))] [])) _
    refine XS.iload X185.here hx rfl (hb hby at_473) rfl ?_
    show Steps p.tables e below (T185.setTop (mkF m 475 #[.val (.long q1), .second, .val (.int p2), .val (.int p3), .val (.long v_), .second, .val (.int (Int32.ofNat aN)), .val (.ref b), .val (.int (Int32.ofNat G)), .val (.int (Int32.ofNat (aN + mm + 1))), .val (.int (1 : Int32))] [(.int (1 : Int32))])) _
    refine XS.ifNo X185.here hx rfl (hb hby at_475) rfl ((if0 _ _).trans (feq (by decide : ¬ (1 : Int32) = 0)).1) ?_
    show Steps p.tables e below (T185.setTop (mkF m 478 #[.val (.long q1), .second, .val (.int p2), .val (.int p3), .val (.long v_), .second, .val (.int (Int32.ofNat aN)), .val (.ref b), .val (.int (Int32.ofNat G)), .val (.int (Int32.ofNat (aN + mm + 1))), .val (.int (1 : Int32))] [])) _
    refine XS.aload X185.here hx rfl (hb hby at_478) rfl rfl ?_
    show Steps p.tables e below (T185.setTop (mkF m 480 #[.val (.long q1), .second, .val (.int p2), .val (.int p3), .val (.long v_), .second, .val (.int (Int32.ofNat aN)), .val (.ref b), .val (.int (Int32.ofNat G)), .val (.int (Int32.ofNat (aN + mm + 1))), .val (.int (1 : Int32))] [(.ref b)])) _
    refine XS.bipush X185.here hx rfl (hb hby at_480) ?_
    show Steps p.tables e below (T185.setTop (mkF m 482 #[.val (.long q1), .second, .val (.int p2), .val (.int p3), .val (.long v_), .second, .val (.int (Int32.ofNat aN)), .val (.ref b), .val (.int (Int32.ofNat G)), .val (.int (Int32.ofNat (aN + mm + 1))), .val (.int (1 : Int32))] [(.int (11 : Int32)), (.ref b)])) _
    refine XS.iload X185.here hx rfl (hb hby at_482) rfl ?_
    show Steps p.tables e below (T185.setTop (mkF m 484 #[.val (.long q1), .second, .val (.int p2), .val (.int p3), .val (.long v_), .second, .val (.int (Int32.ofNat aN)), .val (.ref b), .val (.int (Int32.ofNat G)), .val (.int (Int32.ofNat (aN + mm + 1))), .val (.int (1 : Int32))] [(.int (Int32.ofNat aN)), (.int (11 : Int32)), (.ref b)])) _
    refine XS.lload X185.here hx rfl (hb hby at_484) rfl ?_
    show Steps p.tables e below (T185.setTop (mkF m 486 #[.val (.long q1), .second, .val (.int p2), .val (.int p3), .val (.long v_), .second, .val (.int (Int32.ofNat aN)), .val (.ref b), .val (.int (Int32.ofNat G)), .val (.int (Int32.ofNat (aN + mm + 1))), .val (.int (1 : Int32))] [(.long v_), (.int (Int32.ofNat aN)), (.int (11 : Int32)), (.ref b)])) _
    refine XS.iload X185.here hx rfl (hb hby at_486) rfl ?_
    show Steps p.tables e below (T185.setTop (mkF m 488 #[.val (.long q1), .second, .val (.int p2), .val (.int p3), .val (.long v_), .second, .val (.int (Int32.ofNat aN)), .val (.ref b), .val (.int (Int32.ofNat G)), .val (.int (Int32.ofNat (aN + mm + 1))), .val (.int (1 : Int32))] [(.int (Int32.ofNat G)), (.long v_), (.int (Int32.ofNat aN)), (.int (11 : Int32)), (.ref b)])) _
    refine st186 _ ?_
    show Steps p.tables e below (T186.setTop (mkF m 491 #[.val (.long q1), .second, .val (.int p2), .val (.int p3), .val (.long v_), .second, .val (.int (Int32.ofNat aN)), .val (.ref b), .val (.int (Int32.ofNat G)), .val (.int (Int32.ofNat (aN + mm + 1))), .val (.int (1 : Int32))] [(.int (1 : Int32))])) _
    refine XS.ifNo X186.here hx rfl (hb hby at_491) rfl ((if0 _ _).trans (feq (by decide : ¬ (1 : Int32) = 0)).1) ?_
    exact k_)
  obtain ⟨_, _, ⟨T188, L188, k188, n188⟩, -, X188, ⟨Lc188, hQ188, l188, y188, z188⟩, st188⟩ := Jvm.LawKit.callS X186 hx (y := (⟨"com/example/termite/termite/protocol/VarintsWriteUnsignedPinLaw", "cell", "([BIIJI)Z"⟩ : MethodName)) hown (mvT hZ (hw _ (List.mem_of_getElem? (i := 10) rfl))) (mvT hZ (hw _ (List.mem_of_getElem? (i := 11) rfl))) (mvT hZ (hw _ (List.mem_of_getElem? (i := 3) rfl))) (mvT hZ (hw _ (List.mem_of_getElem? (i := 12) rfl))) (by decide) (backOf (W := 0) (rmCg l Z a0 hw [] b v_ 12 aN mm G T168.heap n0 Z169 eG (by decide) b1 b2 m1 m2 VB) hZ (hw _ (List.mem_of_getElem? (i := 12) rfl)) (hw _ (List.mem_of_getElem? (i := 3) rfl)) (by decide) (by decide)) (g := (mkF m 516 #[.val (.long q1), .second, .val (.int p2), .val (.int p3), .val (.long v_), .second, .val (.int (Int32.ofNat aN)), .val (.ref b), .val (.int (Int32.ofNat G)), .val (.int (Int32.ofNat (aN + mm + 1))), .val (.int (1 : Int32))] [(.int (Int32.ofNat G)), (.long v_), (.int (Int32.ofNat aN)), (.int (12 : Int32)), (.ref b)])) rfl (by rw [hml]; rfl) (argsL := [(.ref b), (.int (12 : Int32)), (.int (Int32.ofNat aN)), (.long v_), (.int (Int32.ofNat G))]) (rest := []) (lenOf pd_2 rfl) rfl (by show 2 * 0 + _ ≤ _; exact Nat.le_of_eq rfl) (hb hby at_516) (fun _ _ => ⟨rfl, e186, (by decide : 1 + 0 ≤ _), (by decide : 20 + 0 ≤ _)⟩)
  dsimp only [Pt.U, Pt.locs, Pt.cells, Pt.slots] at X188 l188 y188 z188 st188 hQ188
  rw [l188, y188, z188] at X188
  obtain ⟨hv188, N188q, e188⟩ := hQ188
  rw [hv188] at st188
  have N188 := Fr.app N186 N188q
  obtain ⟨_, _, ⟨T189, L189, k189, n189⟩, -, X189, ⟨Lc189, hQ189, l189, y189, z189⟩, st189⟩ := Jvm.LawKit.callS X188 hx (y := (⟨"com/example/termite/termite/protocol/VarintsWriteUnsignedPinLaw", "cell", "([BIIJI)Z"⟩ : MethodName)) hown (mvT hZ (hw _ (List.mem_of_getElem? (i := 10) rfl))) (mvT hZ (hw _ (List.mem_of_getElem? (i := 11) rfl))) (mvT hZ (hw _ (List.mem_of_getElem? (i := 3) rfl))) (mvT hZ (hw _ (List.mem_of_getElem? (i := 12) rfl))) (by decide) (backOf (W := 0) (rmCg l Z a0 hw [] b v_ 13 aN mm G T168.heap n0 Z169 eG (by decide) b1 b2 m1 m2 VB) hZ (hw _ (List.mem_of_getElem? (i := 12) rfl)) (hw _ (List.mem_of_getElem? (i := 3) rfl)) (by decide) (by decide)) (g := (mkF m 544 #[.val (.long q1), .second, .val (.int p2), .val (.int p3), .val (.long v_), .second, .val (.int (Int32.ofNat aN)), .val (.ref b), .val (.int (Int32.ofNat G)), .val (.int (Int32.ofNat (aN + mm + 1))), .val (.int (1 : Int32))] [(.int (Int32.ofNat G)), (.long v_), (.int (Int32.ofNat aN)), (.int (13 : Int32)), (.ref b)])) rfl (by rw [hml]; rfl) (argsL := [(.ref b), (.int (13 : Int32)), (.int (Int32.ofNat aN)), (.long v_), (.int (Int32.ofNat G))]) (rest := []) (lenOf pd_2 rfl) rfl (by show 2 * 0 + _ ≤ _; exact Nat.le_of_eq rfl) (hb hby at_544) (fun _ _ => ⟨rfl, e188, (by decide : 1 + 0 ≤ _), (by decide : 20 + 0 ≤ _)⟩)
  dsimp only [Pt.U, Pt.locs, Pt.cells, Pt.slots] at X189 l189 y189 z189 st189 hQ189
  rw [l189, y189, z189] at X189
  obtain ⟨hv189, N189q, e189⟩ := hQ189
  rw [hv189] at st189
  have N189 := Fr.app N188 N189q
  have pre190 : ∀ t_, Steps p.tables e below (T189.setTop (mkF m 564 #[.val (.long q1), .second, .val (.int p2), .val (.int p3), .val (.long v_), .second, .val (.int (Int32.ofNat aN)), .val (.ref b), .val (.int (Int32.ofNat G)), .val (.int (Int32.ofNat (aN + mm + 1))), .val (.int (1 : Int32))] [(.ref b)])) t_ → Steps p.tables e below (s₁.setTop (entryFrame m #[(.long q1), (.int p2), (.int p3)] maxLocals)) t_ := fun t_ k_ => pre187 _ (by
    show Steps p.tables e below (T186.setTop (mkF m 494 #[.val (.long q1), .second, .val (.int p2), .val (.int p3), .val (.long v_), .second, .val (.int (Int32.ofNat aN)), .val (.ref b), .val (.int (Int32.ofNat G)), .val (.int (Int32.ofNat (aN + mm + 1))), .val (.int (1 : Int32))] [])) _
    refine XS.iconst X186.here hx rfl (hb hby at_494) ?_
    show Steps p.tables e below (T186.setTop (mkF m 495 #[.val (.long q1), .second, .val (.int p2), .val (.int p3), .val (.long v_), .second, .val (.int (Int32.ofNat aN)), .val (.ref b), .val (.int (Int32.ofNat G)), .val (.int (Int32.ofNat (aN + mm + 1))), .val (.int (1 : Int32))] [(.int (1 : Int32))])) _
    refine XS.goto X186.here hx rfl (pc0 := 495) (pc' := 499) rfl (hb hby at_495) (by decide) (by decide) ?_
    show Steps p.tables e below (T186.setTop (mkF m 499 #[.val (.long q1), .second, .val (.int p2), .val (.int p3), .val (.long v_), .second, .val (.int (Int32.ofNat aN)), .val (.ref b), .val (.int (Int32.ofNat G)), .val (.int (Int32.ofNat (aN + mm + 1))), .val (.int (1 : Int32))] [(.int (1 : Int32))])) _
    refine XS.istore X186.here hx rfl (hb hby at_499) rfl (l' := #[.val (.long q1), .second, .val (.int p2), .val (.int p3), .val (.long v_), .second, .val (.int (Int32.ofNat aN)), .val (.ref b), .val (.int (Int32.ofNat G)), .val (.int (Int32.ofNat (aN + mm + 1))), .val (.int (1 : Int32))]) rfl ?_
    show Steps p.tables e below (T186.setTop (mkF m 501 #[.val (.long q1), .second, .val (.int p2), .val (.int p3), .val (.long v_), .second, .val (.int (Int32.ofNat aN)), .val (.ref b), .val (.int (Int32.ofNat G)), .val (.int (Int32.ofNat (aN + mm + 1))), .val (.int (1 : Int32))] [])) _
    refine XS.iload X186.here hx rfl (hb hby at_501) rfl ?_
    show Steps p.tables e below (T186.setTop (mkF m 503 #[.val (.long q1), .second, .val (.int p2), .val (.int p3), .val (.long v_), .second, .val (.int (Int32.ofNat aN)), .val (.ref b), .val (.int (Int32.ofNat G)), .val (.int (Int32.ofNat (aN + mm + 1))), .val (.int (1 : Int32))] [(.int (1 : Int32))])) _
    refine XS.ifNo X186.here hx rfl (hb hby at_503) rfl ((if0 _ _).trans (feq (by decide : ¬ (1 : Int32) = 0)).1) ?_
    show Steps p.tables e below (T186.setTop (mkF m 506 #[.val (.long q1), .second, .val (.int p2), .val (.int p3), .val (.long v_), .second, .val (.int (Int32.ofNat aN)), .val (.ref b), .val (.int (Int32.ofNat G)), .val (.int (Int32.ofNat (aN + mm + 1))), .val (.int (1 : Int32))] [])) _
    refine XS.aload X186.here hx rfl (hb hby at_506) rfl rfl ?_
    show Steps p.tables e below (T186.setTop (mkF m 508 #[.val (.long q1), .second, .val (.int p2), .val (.int p3), .val (.long v_), .second, .val (.int (Int32.ofNat aN)), .val (.ref b), .val (.int (Int32.ofNat G)), .val (.int (Int32.ofNat (aN + mm + 1))), .val (.int (1 : Int32))] [(.ref b)])) _
    refine XS.bipush X186.here hx rfl (hb hby at_508) ?_
    show Steps p.tables e below (T186.setTop (mkF m 510 #[.val (.long q1), .second, .val (.int p2), .val (.int p3), .val (.long v_), .second, .val (.int (Int32.ofNat aN)), .val (.ref b), .val (.int (Int32.ofNat G)), .val (.int (Int32.ofNat (aN + mm + 1))), .val (.int (1 : Int32))] [(.int (12 : Int32)), (.ref b)])) _
    refine XS.iload X186.here hx rfl (hb hby at_510) rfl ?_
    show Steps p.tables e below (T186.setTop (mkF m 512 #[.val (.long q1), .second, .val (.int p2), .val (.int p3), .val (.long v_), .second, .val (.int (Int32.ofNat aN)), .val (.ref b), .val (.int (Int32.ofNat G)), .val (.int (Int32.ofNat (aN + mm + 1))), .val (.int (1 : Int32))] [(.int (Int32.ofNat aN)), (.int (12 : Int32)), (.ref b)])) _
    refine XS.lload X186.here hx rfl (hb hby at_512) rfl ?_
    show Steps p.tables e below (T186.setTop (mkF m 514 #[.val (.long q1), .second, .val (.int p2), .val (.int p3), .val (.long v_), .second, .val (.int (Int32.ofNat aN)), .val (.ref b), .val (.int (Int32.ofNat G)), .val (.int (Int32.ofNat (aN + mm + 1))), .val (.int (1 : Int32))] [(.long v_), (.int (Int32.ofNat aN)), (.int (12 : Int32)), (.ref b)])) _
    refine XS.iload X186.here hx rfl (hb hby at_514) rfl ?_
    show Steps p.tables e below (T186.setTop (mkF m 516 #[.val (.long q1), .second, .val (.int p2), .val (.int p3), .val (.long v_), .second, .val (.int (Int32.ofNat aN)), .val (.ref b), .val (.int (Int32.ofNat G)), .val (.int (Int32.ofNat (aN + mm + 1))), .val (.int (1 : Int32))] [(.int (Int32.ofNat G)), (.long v_), (.int (Int32.ofNat aN)), (.int (12 : Int32)), (.ref b)])) _
    refine st188 _ ?_
    show Steps p.tables e below (T188.setTop (mkF m 519 #[.val (.long q1), .second, .val (.int p2), .val (.int p3), .val (.long v_), .second, .val (.int (Int32.ofNat aN)), .val (.ref b), .val (.int (Int32.ofNat G)), .val (.int (Int32.ofNat (aN + mm + 1))), .val (.int (1 : Int32))] [(.int (1 : Int32))])) _
    refine XS.ifNo X188.here hx rfl (hb hby at_519) rfl ((if0 _ _).trans (feq (by decide : ¬ (1 : Int32) = 0)).1) ?_
    show Steps p.tables e below (T188.setTop (mkF m 522 #[.val (.long q1), .second, .val (.int p2), .val (.int p3), .val (.long v_), .second, .val (.int (Int32.ofNat aN)), .val (.ref b), .val (.int (Int32.ofNat G)), .val (.int (Int32.ofNat (aN + mm + 1))), .val (.int (1 : Int32))] [])) _
    refine XS.iconst X188.here hx rfl (hb hby at_522) ?_
    show Steps p.tables e below (T188.setTop (mkF m 523 #[.val (.long q1), .second, .val (.int p2), .val (.int p3), .val (.long v_), .second, .val (.int (Int32.ofNat aN)), .val (.ref b), .val (.int (Int32.ofNat G)), .val (.int (Int32.ofNat (aN + mm + 1))), .val (.int (1 : Int32))] [(.int (1 : Int32))])) _
    refine XS.goto X188.here hx rfl (pc0 := 523) (pc' := 527) rfl (hb hby at_523) (by decide) (by decide) ?_
    show Steps p.tables e below (T188.setTop (mkF m 527 #[.val (.long q1), .second, .val (.int p2), .val (.int p3), .val (.long v_), .second, .val (.int (Int32.ofNat aN)), .val (.ref b), .val (.int (Int32.ofNat G)), .val (.int (Int32.ofNat (aN + mm + 1))), .val (.int (1 : Int32))] [(.int (1 : Int32))])) _
    refine XS.istore X188.here hx rfl (hb hby at_527) rfl (l' := #[.val (.long q1), .second, .val (.int p2), .val (.int p3), .val (.long v_), .second, .val (.int (Int32.ofNat aN)), .val (.ref b), .val (.int (Int32.ofNat G)), .val (.int (Int32.ofNat (aN + mm + 1))), .val (.int (1 : Int32))]) rfl ?_
    show Steps p.tables e below (T188.setTop (mkF m 529 #[.val (.long q1), .second, .val (.int p2), .val (.int p3), .val (.long v_), .second, .val (.int (Int32.ofNat aN)), .val (.ref b), .val (.int (Int32.ofNat G)), .val (.int (Int32.ofNat (aN + mm + 1))), .val (.int (1 : Int32))] [])) _
    refine XS.iload X188.here hx rfl (hb hby at_529) rfl ?_
    show Steps p.tables e below (T188.setTop (mkF m 531 #[.val (.long q1), .second, .val (.int p2), .val (.int p3), .val (.long v_), .second, .val (.int (Int32.ofNat aN)), .val (.ref b), .val (.int (Int32.ofNat G)), .val (.int (Int32.ofNat (aN + mm + 1))), .val (.int (1 : Int32))] [(.int (1 : Int32))])) _
    refine XS.ifNo X188.here hx rfl (hb hby at_531) rfl ((if0 _ _).trans (feq (by decide : ¬ (1 : Int32) = 0)).1) ?_
    show Steps p.tables e below (T188.setTop (mkF m 534 #[.val (.long q1), .second, .val (.int p2), .val (.int p3), .val (.long v_), .second, .val (.int (Int32.ofNat aN)), .val (.ref b), .val (.int (Int32.ofNat G)), .val (.int (Int32.ofNat (aN + mm + 1))), .val (.int (1 : Int32))] [])) _
    refine XS.aload X188.here hx rfl (hb hby at_534) rfl rfl ?_
    show Steps p.tables e below (T188.setTop (mkF m 536 #[.val (.long q1), .second, .val (.int p2), .val (.int p3), .val (.long v_), .second, .val (.int (Int32.ofNat aN)), .val (.ref b), .val (.int (Int32.ofNat G)), .val (.int (Int32.ofNat (aN + mm + 1))), .val (.int (1 : Int32))] [(.ref b)])) _
    refine XS.bipush X188.here hx rfl (hb hby at_536) ?_
    show Steps p.tables e below (T188.setTop (mkF m 538 #[.val (.long q1), .second, .val (.int p2), .val (.int p3), .val (.long v_), .second, .val (.int (Int32.ofNat aN)), .val (.ref b), .val (.int (Int32.ofNat G)), .val (.int (Int32.ofNat (aN + mm + 1))), .val (.int (1 : Int32))] [(.int (13 : Int32)), (.ref b)])) _
    refine XS.iload X188.here hx rfl (hb hby at_538) rfl ?_
    show Steps p.tables e below (T188.setTop (mkF m 540 #[.val (.long q1), .second, .val (.int p2), .val (.int p3), .val (.long v_), .second, .val (.int (Int32.ofNat aN)), .val (.ref b), .val (.int (Int32.ofNat G)), .val (.int (Int32.ofNat (aN + mm + 1))), .val (.int (1 : Int32))] [(.int (Int32.ofNat aN)), (.int (13 : Int32)), (.ref b)])) _
    refine XS.lload X188.here hx rfl (hb hby at_540) rfl ?_
    show Steps p.tables e below (T188.setTop (mkF m 542 #[.val (.long q1), .second, .val (.int p2), .val (.int p3), .val (.long v_), .second, .val (.int (Int32.ofNat aN)), .val (.ref b), .val (.int (Int32.ofNat G)), .val (.int (Int32.ofNat (aN + mm + 1))), .val (.int (1 : Int32))] [(.long v_), (.int (Int32.ofNat aN)), (.int (13 : Int32)), (.ref b)])) _
    refine XS.iload X188.here hx rfl (hb hby at_542) rfl ?_
    show Steps p.tables e below (T188.setTop (mkF m 544 #[.val (.long q1), .second, .val (.int p2), .val (.int p3), .val (.long v_), .second, .val (.int (Int32.ofNat aN)), .val (.ref b), .val (.int (Int32.ofNat G)), .val (.int (Int32.ofNat (aN + mm + 1))), .val (.int (1 : Int32))] [(.int (Int32.ofNat G)), (.long v_), (.int (Int32.ofNat aN)), (.int (13 : Int32)), (.ref b)])) _
    refine st189 _ ?_
    show Steps p.tables e below (T189.setTop (mkF m 547 #[.val (.long q1), .second, .val (.int p2), .val (.int p3), .val (.long v_), .second, .val (.int (Int32.ofNat aN)), .val (.ref b), .val (.int (Int32.ofNat G)), .val (.int (Int32.ofNat (aN + mm + 1))), .val (.int (1 : Int32))] [(.int (1 : Int32))])) _
    refine XS.ifNo X189.here hx rfl (hb hby at_547) rfl ((if0 _ _).trans (feq (by decide : ¬ (1 : Int32) = 0)).1) ?_
    show Steps p.tables e below (T189.setTop (mkF m 550 #[.val (.long q1), .second, .val (.int p2), .val (.int p3), .val (.long v_), .second, .val (.int (Int32.ofNat aN)), .val (.ref b), .val (.int (Int32.ofNat G)), .val (.int (Int32.ofNat (aN + mm + 1))), .val (.int (1 : Int32))] [])) _
    refine XS.iconst X189.here hx rfl (hb hby at_550) ?_
    show Steps p.tables e below (T189.setTop (mkF m 551 #[.val (.long q1), .second, .val (.int p2), .val (.int p3), .val (.long v_), .second, .val (.int (Int32.ofNat aN)), .val (.ref b), .val (.int (Int32.ofNat G)), .val (.int (Int32.ofNat (aN + mm + 1))), .val (.int (1 : Int32))] [(.int (1 : Int32))])) _
    refine XS.goto X189.here hx rfl (pc0 := 551) (pc' := 555) rfl (hb hby at_551) (by decide) (by decide) ?_
    show Steps p.tables e below (T189.setTop (mkF m 555 #[.val (.long q1), .second, .val (.int p2), .val (.int p3), .val (.long v_), .second, .val (.int (Int32.ofNat aN)), .val (.ref b), .val (.int (Int32.ofNat G)), .val (.int (Int32.ofNat (aN + mm + 1))), .val (.int (1 : Int32))] [(.int (1 : Int32))])) _
    refine XS.istore X189.here hx rfl (hb hby at_555) rfl (l' := #[.val (.long q1), .second, .val (.int p2), .val (.int p3), .val (.long v_), .second, .val (.int (Int32.ofNat aN)), .val (.ref b), .val (.int (Int32.ofNat G)), .val (.int (Int32.ofNat (aN + mm + 1))), .val (.int (1 : Int32))]) rfl ?_
    show Steps p.tables e below (T189.setTop (mkF m 557 #[.val (.long q1), .second, .val (.int p2), .val (.int p3), .val (.long v_), .second, .val (.int (Int32.ofNat aN)), .val (.ref b), .val (.int (Int32.ofNat G)), .val (.int (Int32.ofNat (aN + mm + 1))), .val (.int (1 : Int32))] [])) _
    refine XS.iload X189.here hx rfl (hb hby at_557) rfl ?_
    show Steps p.tables e below (T189.setTop (mkF m 559 #[.val (.long q1), .second, .val (.int p2), .val (.int p3), .val (.long v_), .second, .val (.int (Int32.ofNat aN)), .val (.ref b), .val (.int (Int32.ofNat G)), .val (.int (Int32.ofNat (aN + mm + 1))), .val (.int (1 : Int32))] [(.int (1 : Int32))])) _
    refine XS.ifNo X189.here hx rfl (hb hby at_559) rfl ((if0 _ _).trans (feq (by decide : ¬ (1 : Int32) = 0)).1) ?_
    show Steps p.tables e below (T189.setTop (mkF m 562 #[.val (.long q1), .second, .val (.int p2), .val (.int p3), .val (.long v_), .second, .val (.int (Int32.ofNat aN)), .val (.ref b), .val (.int (Int32.ofNat G)), .val (.int (Int32.ofNat (aN + mm + 1))), .val (.int (1 : Int32))] [])) _
    refine XS.aload X189.here hx rfl (hb hby at_562) rfl rfl ?_
    exact k_)
  obtain ⟨_, _, ⟨T191, L191, k191, n191⟩, -, X191, ⟨Lc191, hQ191, l191, y191, z191⟩, st191⟩ := Jvm.LawKit.callS X189 hx (y := (⟨"com/example/termite/termite/protocol/VarintsWriteUnsignedPinLaw", "cell", "([BIIJI)Z"⟩ : MethodName)) hown (mvT hZ (hw _ (List.mem_of_getElem? (i := 10) rfl))) (mvT hZ (hw _ (List.mem_of_getElem? (i := 11) rfl))) (mvT hZ (hw _ (List.mem_of_getElem? (i := 3) rfl))) (mvT hZ (hw _ (List.mem_of_getElem? (i := 12) rfl))) (by decide) (backOf (W := 0) (rmCg l Z a0 hw [] b v_ 14 aN mm G T168.heap n0 Z169 eG (by decide) b1 b2 m1 m2 VB) hZ (hw _ (List.mem_of_getElem? (i := 12) rfl)) (hw _ (List.mem_of_getElem? (i := 3) rfl)) (by decide) (by decide)) (g := (mkF m 572 #[.val (.long q1), .second, .val (.int p2), .val (.int p3), .val (.long v_), .second, .val (.int (Int32.ofNat aN)), .val (.ref b), .val (.int (Int32.ofNat G)), .val (.int (Int32.ofNat (aN + mm + 1))), .val (.int (1 : Int32))] [(.int (Int32.ofNat G)), (.long v_), (.int (Int32.ofNat aN)), (.int (14 : Int32)), (.ref b)])) rfl (by rw [hml]; rfl) (argsL := [(.ref b), (.int (14 : Int32)), (.int (Int32.ofNat aN)), (.long v_), (.int (Int32.ofNat G))]) (rest := []) (lenOf pd_2 rfl) rfl (by show 2 * 0 + _ ≤ _; exact Nat.le_of_eq rfl) (hb hby at_572) (fun _ _ => ⟨rfl, e189, (by decide : 1 + 0 ≤ _), (by decide : 20 + 0 ≤ _)⟩)
  dsimp only [Pt.U, Pt.locs, Pt.cells, Pt.slots] at X191 l191 y191 z191 st191 hQ191
  rw [l191, y191, z191] at X191
  obtain ⟨hv191, N191q, e191⟩ := hQ191
  rw [hv191] at st191
  have N191 := Fr.app N189 N191q
  obtain ⟨_, _, ⟨T192, L192, k192, n192⟩, -, X192, ⟨Lc192, hQ192, l192, y192, z192⟩, st192⟩ := Jvm.LawKit.callS X191 hx (y := (⟨"com/example/termite/termite/protocol/VarintsWriteUnsignedPinLaw", "cell", "([BIIJI)Z"⟩ : MethodName)) hown (mvT hZ (hw _ (List.mem_of_getElem? (i := 10) rfl))) (mvT hZ (hw _ (List.mem_of_getElem? (i := 11) rfl))) (mvT hZ (hw _ (List.mem_of_getElem? (i := 3) rfl))) (mvT hZ (hw _ (List.mem_of_getElem? (i := 12) rfl))) (by decide) (backOf (W := 0) (rmCg l Z a0 hw [] b v_ 15 aN mm G T168.heap n0 Z169 eG (by decide) b1 b2 m1 m2 VB) hZ (hw _ (List.mem_of_getElem? (i := 12) rfl)) (hw _ (List.mem_of_getElem? (i := 3) rfl)) (by decide) (by decide)) (g := (mkF m 600 #[.val (.long q1), .second, .val (.int p2), .val (.int p3), .val (.long v_), .second, .val (.int (Int32.ofNat aN)), .val (.ref b), .val (.int (Int32.ofNat G)), .val (.int (Int32.ofNat (aN + mm + 1))), .val (.int (1 : Int32))] [(.int (Int32.ofNat G)), (.long v_), (.int (Int32.ofNat aN)), (.int (15 : Int32)), (.ref b)])) rfl (by rw [hml]; rfl) (argsL := [(.ref b), (.int (15 : Int32)), (.int (Int32.ofNat aN)), (.long v_), (.int (Int32.ofNat G))]) (rest := []) (lenOf pd_2 rfl) rfl (by show 2 * 0 + _ ≤ _; exact Nat.le_of_eq rfl) (hb hby at_600) (fun _ _ => ⟨rfl, e191, (by decide : 1 + 0 ≤ _), (by decide : 20 + 0 ≤ _)⟩)
  dsimp only [Pt.U, Pt.locs, Pt.cells, Pt.slots] at X192 l192 y192 z192 st192 hQ192
  rw [l192, y192, z192] at X192
  obtain ⟨hv192, N192q, e192⟩ := hQ192
  rw [hv192] at st192
  have N192 := Fr.app N191 N192q
  obtain ⟨_, _, ⟨T193, L193, k193, n193⟩, -, X193, ⟨Lc193, hQ193, l193, y193, z193⟩, st193⟩ := Jvm.LawKit.callS X192 hx (y := (⟨"com/example/termite/termite/protocol/VarintsWriteUnsignedPinLaw", "cell", "([BIIJI)Z"⟩ : MethodName)) hown (mvT hZ (hw _ (List.mem_of_getElem? (i := 10) rfl))) (mvT hZ (hw _ (List.mem_of_getElem? (i := 11) rfl))) (mvT hZ (hw _ (List.mem_of_getElem? (i := 3) rfl))) (mvT hZ (hw _ (List.mem_of_getElem? (i := 12) rfl))) (by decide) (backOf (W := 0) (rmCg l Z a0 hw [] b v_ 16 aN mm G T168.heap n0 Z169 eG (by decide) b1 b2 m1 m2 VB) hZ (hw _ (List.mem_of_getElem? (i := 12) rfl)) (hw _ (List.mem_of_getElem? (i := 3) rfl)) (by decide) (by decide)) (g := (mkF m 628 #[.val (.long q1), .second, .val (.int p2), .val (.int p3), .val (.long v_), .second, .val (.int (Int32.ofNat aN)), .val (.ref b), .val (.int (Int32.ofNat G)), .val (.int (Int32.ofNat (aN + mm + 1))), .val (.int (1 : Int32))] [(.int (Int32.ofNat G)), (.long v_), (.int (Int32.ofNat aN)), (.int (16 : Int32)), (.ref b)])) rfl (by rw [hml]; rfl) (argsL := [(.ref b), (.int (16 : Int32)), (.int (Int32.ofNat aN)), (.long v_), (.int (Int32.ofNat G))]) (rest := []) (lenOf pd_2 rfl) rfl (by show 2 * 0 + _ ≤ _; exact Nat.le_of_eq rfl) (hb hby at_628) (fun _ _ => ⟨rfl, e192, (by decide : 1 + 0 ≤ _), (by decide : 20 + 0 ≤ _)⟩)
  dsimp only [Pt.U, Pt.locs, Pt.cells, Pt.slots] at X193 l193 y193 z193 st193 hQ193
  rw [l193, y193, z193] at X193
  obtain ⟨hv193, N193q, e193⟩ := hQ193
  rw [hv193] at st193
  have N193 := Fr.app N192 N193q
  have pre194 : ∀ t_, Steps p.tables e below (T193.setTop (mkF m 634 #[.val (.long q1), .second, .val (.int p2), .val (.int p3), .val (.long v_), .second, .val (.int (Int32.ofNat aN)), .val (.ref b), .val (.int (Int32.ofNat G)), .val (.int (Int32.ofNat (aN + mm + 1))), .val (.int (1 : Int32))] [])) t_ → Steps p.tables e below (s₁.setTop (entryFrame m #[(.long q1), (.int p2), (.int p3)] maxLocals)) t_ := fun t_ k_ => pre190 _ (by
    show Steps p.tables e below (T189.setTop (mkF m 564 #[.val (.long q1), .second, .val (.int p2), .val (.int p3), .val (.long v_), .second, .val (.int (Int32.ofNat aN)), .val (.ref b), .val (.int (Int32.ofNat G)), .val (.int (Int32.ofNat (aN + mm + 1))), .val (.int (1 : Int32))] [(.ref b)])) _
    refine XS.bipush X189.here hx rfl (hb hby at_564) ?_
    show Steps p.tables e below (T189.setTop (mkF m 566 #[.val (.long q1), .second, .val (.int p2), .val (.int p3), .val (.long v_), .second, .val (.int (Int32.ofNat aN)), .val (.ref b), .val (.int (Int32.ofNat G)), .val (.int (Int32.ofNat (aN + mm + 1))), .val (.int (1 : Int32))] [(.int (14 : Int32)), (.ref b)])) _
    refine XS.iload X189.here hx rfl (hb hby at_566) rfl ?_
    show Steps p.tables e below (T189.setTop (mkF m 568 #[.val (.long q1), .second, .val (.int p2), .val (.int p3), .val (.long v_), .second, .val (.int (Int32.ofNat aN)), .val (.ref b), .val (.int (Int32.ofNat G)), .val (.int (Int32.ofNat (aN + mm + 1))), .val (.int (1 : Int32))] [(.int (Int32.ofNat aN)), (.int (14 : Int32)), (.ref b)])) _
    refine XS.lload X189.here hx rfl (hb hby at_568) rfl ?_
    show Steps p.tables e below (T189.setTop (mkF m 570 #[.val (.long q1), .second, .val (.int p2), .val (.int p3), .val (.long v_), .second, .val (.int (Int32.ofNat aN)), .val (.ref b), .val (.int (Int32.ofNat G)), .val (.int (Int32.ofNat (aN + mm + 1))), .val (.int (1 : Int32))] [(.long v_), (.int (Int32.ofNat aN)), (.int (14 : Int32)), (.ref b)])) _
    refine XS.iload X189.here hx rfl (hb hby at_570) rfl ?_
    show Steps p.tables e below (T189.setTop (mkF m 572 #[.val (.long q1), .second, .val (.int p2), .val (.int p3), .val (.long v_), .second, .val (.int (Int32.ofNat aN)), .val (.ref b), .val (.int (Int32.ofNat G)), .val (.int (Int32.ofNat (aN + mm + 1))), .val (.int (1 : Int32))] [(.int (Int32.ofNat G)), (.long v_), (.int (Int32.ofNat aN)), (.int (14 : Int32)), (.ref b)])) _
    refine st191 _ ?_
    show Steps p.tables e below (T191.setTop (mkF m 575 #[.val (.long q1), .second, .val (.int p2), .val (.int p3), .val (.long v_), .second, .val (.int (Int32.ofNat aN)), .val (.ref b), .val (.int (Int32.ofNat G)), .val (.int (Int32.ofNat (aN + mm + 1))), .val (.int (1 : Int32))] [(.int (1 : Int32))])) _
    refine XS.ifNo X191.here hx rfl (hb hby at_575) rfl ((if0 _ _).trans (feq (by decide : ¬ (1 : Int32) = 0)).1) ?_
    show Steps p.tables e below (T191.setTop (mkF m 578 #[.val (.long q1), .second, .val (.int p2), .val (.int p3), .val (.long v_), .second, .val (.int (Int32.ofNat aN)), .val (.ref b), .val (.int (Int32.ofNat G)), .val (.int (Int32.ofNat (aN + mm + 1))), .val (.int (1 : Int32))] [])) _
    refine XS.iconst X191.here hx rfl (hb hby at_578) ?_
    show Steps p.tables e below (T191.setTop (mkF m 579 #[.val (.long q1), .second, .val (.int p2), .val (.int p3), .val (.long v_), .second, .val (.int (Int32.ofNat aN)), .val (.ref b), .val (.int (Int32.ofNat G)), .val (.int (Int32.ofNat (aN + mm + 1))), .val (.int (1 : Int32))] [(.int (1 : Int32))])) _
    refine XS.goto X191.here hx rfl (pc0 := 579) (pc' := 583) rfl (hb hby at_579) (by decide) (by decide) ?_
    show Steps p.tables e below (T191.setTop (mkF m 583 #[.val (.long q1), .second, .val (.int p2), .val (.int p3), .val (.long v_), .second, .val (.int (Int32.ofNat aN)), .val (.ref b), .val (.int (Int32.ofNat G)), .val (.int (Int32.ofNat (aN + mm + 1))), .val (.int (1 : Int32))] [(.int (1 : Int32))])) _
    refine XS.istore X191.here hx rfl (hb hby at_583) rfl (l' := #[.val (.long q1), .second, .val (.int p2), .val (.int p3), .val (.long v_), .second, .val (.int (Int32.ofNat aN)), .val (.ref b), .val (.int (Int32.ofNat G)), .val (.int (Int32.ofNat (aN + mm + 1))), .val (.int (1 : Int32))]) rfl ?_
    show Steps p.tables e below (T191.setTop (mkF m 585 #[.val (.long q1), .second, .val (.int p2), .val (.int p3), .val (.long v_), .second, .val (.int (Int32.ofNat aN)), .val (.ref b), .val (.int (Int32.ofNat G)), .val (.int (Int32.ofNat (aN + mm + 1))), .val (.int (1 : Int32))] [])) _
    refine XS.iload X191.here hx rfl (hb hby at_585) rfl ?_
    show Steps p.tables e below (T191.setTop (mkF m 587 #[.val (.long q1), .second, .val (.int p2), .val (.int p3), .val (.long v_), .second, .val (.int (Int32.ofNat aN)), .val (.ref b), .val (.int (Int32.ofNat G)), .val (.int (Int32.ofNat (aN + mm + 1))), .val (.int (1 : Int32))] [(.int (1 : Int32))])) _
    refine XS.ifNo X191.here hx rfl (hb hby at_587) rfl ((if0 _ _).trans (feq (by decide : ¬ (1 : Int32) = 0)).1) ?_
    show Steps p.tables e below (T191.setTop (mkF m 590 #[.val (.long q1), .second, .val (.int p2), .val (.int p3), .val (.long v_), .second, .val (.int (Int32.ofNat aN)), .val (.ref b), .val (.int (Int32.ofNat G)), .val (.int (Int32.ofNat (aN + mm + 1))), .val (.int (1 : Int32))] [])) _
    refine XS.aload X191.here hx rfl (hb hby at_590) rfl rfl ?_
    show Steps p.tables e below (T191.setTop (mkF m 592 #[.val (.long q1), .second, .val (.int p2), .val (.int p3), .val (.long v_), .second, .val (.int (Int32.ofNat aN)), .val (.ref b), .val (.int (Int32.ofNat G)), .val (.int (Int32.ofNat (aN + mm + 1))), .val (.int (1 : Int32))] [(.ref b)])) _
    refine XS.bipush X191.here hx rfl (hb hby at_592) ?_
    show Steps p.tables e below (T191.setTop (mkF m 594 #[.val (.long q1), .second, .val (.int p2), .val (.int p3), .val (.long v_), .second, .val (.int (Int32.ofNat aN)), .val (.ref b), .val (.int (Int32.ofNat G)), .val (.int (Int32.ofNat (aN + mm + 1))), .val (.int (1 : Int32))] [(.int (15 : Int32)), (.ref b)])) _
    refine XS.iload X191.here hx rfl (hb hby at_594) rfl ?_
    show Steps p.tables e below (T191.setTop (mkF m 596 #[.val (.long q1), .second, .val (.int p2), .val (.int p3), .val (.long v_), .second, .val (.int (Int32.ofNat aN)), .val (.ref b), .val (.int (Int32.ofNat G)), .val (.int (Int32.ofNat (aN + mm + 1))), .val (.int (1 : Int32))] [(.int (Int32.ofNat aN)), (.int (15 : Int32)), (.ref b)])) _
    refine XS.lload X191.here hx rfl (hb hby at_596) rfl ?_
    show Steps p.tables e below (T191.setTop (mkF m 598 #[.val (.long q1), .second, .val (.int p2), .val (.int p3), .val (.long v_), .second, .val (.int (Int32.ofNat aN)), .val (.ref b), .val (.int (Int32.ofNat G)), .val (.int (Int32.ofNat (aN + mm + 1))), .val (.int (1 : Int32))] [(.long v_), (.int (Int32.ofNat aN)), (.int (15 : Int32)), (.ref b)])) _
    refine XS.iload X191.here hx rfl (hb hby at_598) rfl ?_
    show Steps p.tables e below (T191.setTop (mkF m 600 #[.val (.long q1), .second, .val (.int p2), .val (.int p3), .val (.long v_), .second, .val (.int (Int32.ofNat aN)), .val (.ref b), .val (.int (Int32.ofNat G)), .val (.int (Int32.ofNat (aN + mm + 1))), .val (.int (1 : Int32))] [(.int (Int32.ofNat G)), (.long v_), (.int (Int32.ofNat aN)), (.int (15 : Int32)), (.ref b)])) _
    refine st192 _ ?_
    show Steps p.tables e below (T192.setTop (mkF m 603 #[.val (.long q1), .second, .val (.int p2), .val (.int p3), .val (.long v_), .second, .val (.int (Int32.ofNat aN)), .val (.ref b), .val (.int (Int32.ofNat G)), .val (.int (Int32.ofNat (aN + mm + 1))), .val (.int (1 : Int32))] [(.int (1 : Int32))])) _
    refine XS.ifNo X192.here hx rfl (hb hby at_603) rfl ((if0 _ _).trans (feq (by decide : ¬ (1 : Int32) = 0)).1) ?_
    show Steps p.tables e below (T192.setTop (mkF m 606 #[.val (.long q1), .second, .val (.int p2), .val (.int p3), .val (.long v_), .second, .val (.int (Int32.ofNat aN)), .val (.ref b), .val (.int (Int32.ofNat G)), .val (.int (Int32.ofNat (aN + mm + 1))), .val (.int (1 : Int32))] [])) _
    refine XS.iconst X192.here hx rfl (hb hby at_606) ?_
    show Steps p.tables e below (T192.setTop (mkF m 607 #[.val (.long q1), .second, .val (.int p2), .val (.int p3), .val (.long v_), .second, .val (.int (Int32.ofNat aN)), .val (.ref b), .val (.int (Int32.ofNat G)), .val (.int (Int32.ofNat (aN + mm + 1))), .val (.int (1 : Int32))] [(.int (1 : Int32))])) _
    refine XS.goto X192.here hx rfl (pc0 := 607) (pc' := 611) rfl (hb hby at_607) (by decide) (by decide) ?_
    show Steps p.tables e below (T192.setTop (mkF m 611 #[.val (.long q1), .second, .val (.int p2), .val (.int p3), .val (.long v_), .second, .val (.int (Int32.ofNat aN)), .val (.ref b), .val (.int (Int32.ofNat G)), .val (.int (Int32.ofNat (aN + mm + 1))), .val (.int (1 : Int32))] [(.int (1 : Int32))])) _
    refine XS.istore X192.here hx rfl (hb hby at_611) rfl (l' := #[.val (.long q1), .second, .val (.int p2), .val (.int p3), .val (.long v_), .second, .val (.int (Int32.ofNat aN)), .val (.ref b), .val (.int (Int32.ofNat G)), .val (.int (Int32.ofNat (aN + mm + 1))), .val (.int (1 : Int32))]) rfl ?_
    show Steps p.tables e below (T192.setTop (mkF m 613 #[.val (.long q1), .second, .val (.int p2), .val (.int p3), .val (.long v_), .second, .val (.int (Int32.ofNat aN)), .val (.ref b), .val (.int (Int32.ofNat G)), .val (.int (Int32.ofNat (aN + mm + 1))), .val (.int (1 : Int32))] [])) _
    refine XS.iload X192.here hx rfl (hb hby at_613) rfl ?_
    show Steps p.tables e below (T192.setTop (mkF m 615 #[.val (.long q1), .second, .val (.int p2), .val (.int p3), .val (.long v_), .second, .val (.int (Int32.ofNat aN)), .val (.ref b), .val (.int (Int32.ofNat G)), .val (.int (Int32.ofNat (aN + mm + 1))), .val (.int (1 : Int32))] [(.int (1 : Int32))])) _
    refine XS.ifNo X192.here hx rfl (hb hby at_615) rfl ((if0 _ _).trans (feq (by decide : ¬ (1 : Int32) = 0)).1) ?_
    show Steps p.tables e below (T192.setTop (mkF m 618 #[.val (.long q1), .second, .val (.int p2), .val (.int p3), .val (.long v_), .second, .val (.int (Int32.ofNat aN)), .val (.ref b), .val (.int (Int32.ofNat G)), .val (.int (Int32.ofNat (aN + mm + 1))), .val (.int (1 : Int32))] [])) _
    refine XS.aload X192.here hx rfl (hb hby at_618) rfl rfl ?_
    show Steps p.tables e below (T192.setTop (mkF m 620 #[.val (.long q1), .second, .val (.int p2), .val (.int p3), .val (.long v_), .second, .val (.int (Int32.ofNat aN)), .val (.ref b), .val (.int (Int32.ofNat G)), .val (.int (Int32.ofNat (aN + mm + 1))), .val (.int (1 : Int32))] [(.ref b)])) _
    refine XS.bipush X192.here hx rfl (hb hby at_620) ?_
    show Steps p.tables e below (T192.setTop (mkF m 622 #[.val (.long q1), .second, .val (.int p2), .val (.int p3), .val (.long v_), .second, .val (.int (Int32.ofNat aN)), .val (.ref b), .val (.int (Int32.ofNat G)), .val (.int (Int32.ofNat (aN + mm + 1))), .val (.int (1 : Int32))] [(.int (16 : Int32)), (.ref b)])) _
    refine XS.iload X192.here hx rfl (hb hby at_622) rfl ?_
    show Steps p.tables e below (T192.setTop (mkF m 624 #[.val (.long q1), .second, .val (.int p2), .val (.int p3), .val (.long v_), .second, .val (.int (Int32.ofNat aN)), .val (.ref b), .val (.int (Int32.ofNat G)), .val (.int (Int32.ofNat (aN + mm + 1))), .val (.int (1 : Int32))] [(.int (Int32.ofNat aN)), (.int (16 : Int32)), (.ref b)])) _
    refine XS.lload X192.here hx rfl (hb hby at_624) rfl ?_
    show Steps p.tables e below (T192.setTop (mkF m 626 #[.val (.long q1), .second, .val (.int p2), .val (.int p3), .val (.long v_), .second, .val (.int (Int32.ofNat aN)), .val (.ref b), .val (.int (Int32.ofNat G)), .val (.int (Int32.ofNat (aN + mm + 1))), .val (.int (1 : Int32))] [(.long v_), (.int (Int32.ofNat aN)), (.int (16 : Int32)), (.ref b)])) _
    refine XS.iload X192.here hx rfl (hb hby at_626) rfl ?_
    show Steps p.tables e below (T192.setTop (mkF m 628 #[.val (.long q1), .second, .val (.int p2), .val (.int p3), .val (.long v_), .second, .val (.int (Int32.ofNat aN)), .val (.ref b), .val (.int (Int32.ofNat G)), .val (.int (Int32.ofNat (aN + mm + 1))), .val (.int (1 : Int32))] [(.int (Int32.ofNat G)), (.long v_), (.int (Int32.ofNat aN)), (.int (16 : Int32)), (.ref b)])) _
    refine st193 _ ?_
    show Steps p.tables e below (T193.setTop (mkF m 631 #[.val (.long q1), .second, .val (.int p2), .val (.int p3), .val (.long v_), .second, .val (.int (Int32.ofNat aN)), .val (.ref b), .val (.int (Int32.ofNat G)), .val (.int (Int32.ofNat (aN + mm + 1))), .val (.int (1 : Int32))] [(.int (1 : Int32))])) _
    refine XS.ifNo X193.here hx rfl (hb hby at_631) rfl ((if0 _ _).trans (feq (by decide : ¬ (1 : Int32) = 0)).1) ?_
    exact k_)
  obtain ⟨_, _, ⟨T195, L195, k195, n195⟩, -, X195, ⟨Lc195, hQ195, l195, y195, z195⟩, st195⟩ := Jvm.LawKit.callS X193 hx (y := (⟨"com/example/termite/termite/protocol/VarintsWriteUnsignedPinLaw", "cell", "([BIIJI)Z"⟩ : MethodName)) hown (mvT hZ (hw _ (List.mem_of_getElem? (i := 10) rfl))) (mvT hZ (hw _ (List.mem_of_getElem? (i := 11) rfl))) (mvT hZ (hw _ (List.mem_of_getElem? (i := 3) rfl))) (mvT hZ (hw _ (List.mem_of_getElem? (i := 12) rfl))) (by decide) (backOf (W := 0) (rmCg l Z a0 hw [] b v_ 17 aN mm G T168.heap n0 Z169 eG (by decide) b1 b2 m1 m2 VB) hZ (hw _ (List.mem_of_getElem? (i := 12) rfl)) (hw _ (List.mem_of_getElem? (i := 3) rfl)) (by decide) (by decide)) (g := (mkF m 656 #[.val (.long q1), .second, .val (.int p2), .val (.int p3), .val (.long v_), .second, .val (.int (Int32.ofNat aN)), .val (.ref b), .val (.int (Int32.ofNat G)), .val (.int (Int32.ofNat (aN + mm + 1))), .val (.int (1 : Int32))] [(.int (Int32.ofNat G)), (.long v_), (.int (Int32.ofNat aN)), (.int (17 : Int32)), (.ref b)])) rfl (by rw [hml]; rfl) (argsL := [(.ref b), (.int (17 : Int32)), (.int (Int32.ofNat aN)), (.long v_), (.int (Int32.ofNat G))]) (rest := []) (lenOf pd_2 rfl) rfl (by show 2 * 0 + _ ≤ _; exact Nat.le_of_eq rfl) (hb hby at_656) (fun _ _ => ⟨rfl, e193, (by decide : 1 + 0 ≤ _), (by decide : 20 + 0 ≤ _)⟩)
  dsimp only [Pt.U, Pt.locs, Pt.cells, Pt.slots] at X195 l195 y195 z195 st195 hQ195
  rw [l195, y195, z195] at X195
  obtain ⟨hv195, N195q, e195⟩ := hQ195
  rw [hv195] at st195
  have N195 := Fr.app N193 N195q
  obtain ⟨_, _, ⟨T196, L196, k196, n196⟩, -, X196, ⟨Lc196, hQ196, l196, y196, z196⟩, st196⟩ := Jvm.LawKit.callS X195 hx (y := (⟨"com/example/termite/termite/protocol/VarintsWriteUnsignedPinLaw", "cell", "([BIIJI)Z"⟩ : MethodName)) hown (mvT hZ (hw _ (List.mem_of_getElem? (i := 10) rfl))) (mvT hZ (hw _ (List.mem_of_getElem? (i := 11) rfl))) (mvT hZ (hw _ (List.mem_of_getElem? (i := 3) rfl))) (mvT hZ (hw _ (List.mem_of_getElem? (i := 12) rfl))) (by decide) (backOf (W := 0) (rmCg l Z a0 hw [] b v_ 18 aN mm G T168.heap n0 Z169 eG (by decide) b1 b2 m1 m2 VB) hZ (hw _ (List.mem_of_getElem? (i := 12) rfl)) (hw _ (List.mem_of_getElem? (i := 3) rfl)) (by decide) (by decide)) (g := (mkF m 684 #[.val (.long q1), .second, .val (.int p2), .val (.int p3), .val (.long v_), .second, .val (.int (Int32.ofNat aN)), .val (.ref b), .val (.int (Int32.ofNat G)), .val (.int (Int32.ofNat (aN + mm + 1))), .val (.int (1 : Int32))] [(.int (Int32.ofNat G)), (.long v_), (.int (Int32.ofNat aN)), (.int (18 : Int32)), (.ref b)])) rfl (by rw [hml]; rfl) (argsL := [(.ref b), (.int (18 : Int32)), (.int (Int32.ofNat aN)), (.long v_), (.int (Int32.ofNat G))]) (rest := []) (lenOf pd_2 rfl) rfl (by show 2 * 0 + _ ≤ _; exact Nat.le_of_eq rfl) (hb hby at_684) (fun _ _ => ⟨rfl, e195, (by decide : 1 + 0 ≤ _), (by decide : 20 + 0 ≤ _)⟩)
  dsimp only [Pt.U, Pt.locs, Pt.cells, Pt.slots] at X196 l196 y196 z196 st196 hQ196
  rw [l196, y196, z196] at X196
  obtain ⟨hv196, N196q, e196⟩ := hQ196
  rw [hv196] at st196
  have N196 := Fr.app N195 N196q
  have pre197 : ∀ t_, Steps p.tables e below (T196.setTop (mkF m 704 #[.val (.long q1), .second, .val (.int p2), .val (.int p3), .val (.long v_), .second, .val (.int (Int32.ofNat aN)), .val (.ref b), .val (.int (Int32.ofNat G)), .val (.int (Int32.ofNat (aN + mm + 1))), .val (.int (1 : Int32))] [(.ref b)])) t_ → Steps p.tables e below (s₁.setTop (entryFrame m #[(.long q1), (.int p2), (.int p3)] maxLocals)) t_ := fun t_ k_ => pre194 _ (by
    show Steps p.tables e below (T193.setTop (mkF m 634 #[.val (.long q1), .second, .val (.int p2), .val (.int p3), .val (.long v_), .second, .val (.int (Int32.ofNat aN)), .val (.ref b), .val (.int (Int32.ofNat G)), .val (.int (Int32.ofNat (aN + mm + 1))), .val (.int (1 : Int32))] [])) _
    refine XS.iconst X193.here hx rfl (hb hby at_634) ?_
    show Steps p.tables e below (T193.setTop (mkF m 635 #[.val (.long q1), .second, .val (.int p2), .val (.int p3), .val (.long v_), .second, .val (.int (Int32.ofNat aN)), .val (.ref b), .val (.int (Int32.ofNat G)), .val (.int (Int32.ofNat (aN + mm + 1))), .val (.int (1 : Int32))] [(.int (1 : Int32))])) _
    refine XS.goto X193.here hx rfl (pc0 := 635) (pc' := 639) rfl (hb hby at_635) (by decide) (by decide) ?_
    show Steps p.tables e below (T193.setTop (mkF m 639 #[.val (.long q1), .second, .val (.int p2), .val (.int p3), .val (.long v_), .second, .val (.int (Int32.ofNat aN)), .val (.ref b), .val (.int (Int32.ofNat G)), .val (.int (Int32.ofNat (aN + mm + 1))), .val (.int (1 : Int32))] [(.int (1 : Int32))])) _
    refine XS.istore X193.here hx rfl (hb hby at_639) rfl (l' := #[.val (.long q1), .second, .val (.int p2), .val (.int p3), .val (.long v_), .second, .val (.int (Int32.ofNat aN)), .val (.ref b), .val (.int (Int32.ofNat G)), .val (.int (Int32.ofNat (aN + mm + 1))), .val (.int (1 : Int32))]) rfl ?_
    show Steps p.tables e below (T193.setTop (mkF m 641 #[.val (.long q1), .second, .val (.int p2), .val (.int p3), .val (.long v_), .second, .val (.int (Int32.ofNat aN)), .val (.ref b), .val (.int (Int32.ofNat G)), .val (.int (Int32.ofNat (aN + mm + 1))), .val (.int (1 : Int32))] [])) _
    refine XS.iload X193.here hx rfl (hb hby at_641) rfl ?_
    show Steps p.tables e below (T193.setTop (mkF m 643 #[.val (.long q1), .second, .val (.int p2), .val (.int p3), .val (.long v_), .second, .val (.int (Int32.ofNat aN)), .val (.ref b), .val (.int (Int32.ofNat G)), .val (.int (Int32.ofNat (aN + mm + 1))), .val (.int (1 : Int32))] [(.int (1 : Int32))])) _
    refine XS.ifNo X193.here hx rfl (hb hby at_643) rfl ((if0 _ _).trans (feq (by decide : ¬ (1 : Int32) = 0)).1) ?_
    show Steps p.tables e below (T193.setTop (mkF m 646 #[.val (.long q1), .second, .val (.int p2), .val (.int p3), .val (.long v_), .second, .val (.int (Int32.ofNat aN)), .val (.ref b), .val (.int (Int32.ofNat G)), .val (.int (Int32.ofNat (aN + mm + 1))), .val (.int (1 : Int32))] [])) _
    refine XS.aload X193.here hx rfl (hb hby at_646) rfl rfl ?_
    show Steps p.tables e below (T193.setTop (mkF m 648 #[.val (.long q1), .second, .val (.int p2), .val (.int p3), .val (.long v_), .second, .val (.int (Int32.ofNat aN)), .val (.ref b), .val (.int (Int32.ofNat G)), .val (.int (Int32.ofNat (aN + mm + 1))), .val (.int (1 : Int32))] [(.ref b)])) _
    refine XS.bipush X193.here hx rfl (hb hby at_648) ?_
    show Steps p.tables e below (T193.setTop (mkF m 650 #[.val (.long q1), .second, .val (.int p2), .val (.int p3), .val (.long v_), .second, .val (.int (Int32.ofNat aN)), .val (.ref b), .val (.int (Int32.ofNat G)), .val (.int (Int32.ofNat (aN + mm + 1))), .val (.int (1 : Int32))] [(.int (17 : Int32)), (.ref b)])) _
    refine XS.iload X193.here hx rfl (hb hby at_650) rfl ?_
    show Steps p.tables e below (T193.setTop (mkF m 652 #[.val (.long q1), .second, .val (.int p2), .val (.int p3), .val (.long v_), .second, .val (.int (Int32.ofNat aN)), .val (.ref b), .val (.int (Int32.ofNat G)), .val (.int (Int32.ofNat (aN + mm + 1))), .val (.int (1 : Int32))] [(.int (Int32.ofNat aN)), (.int (17 : Int32)), (.ref b)])) _
    refine XS.lload X193.here hx rfl (hb hby at_652) rfl ?_
    show Steps p.tables e below (T193.setTop (mkF m 654 #[.val (.long q1), .second, .val (.int p2), .val (.int p3), .val (.long v_), .second, .val (.int (Int32.ofNat aN)), .val (.ref b), .val (.int (Int32.ofNat G)), .val (.int (Int32.ofNat (aN + mm + 1))), .val (.int (1 : Int32))] [(.long v_), (.int (Int32.ofNat aN)), (.int (17 : Int32)), (.ref b)])) _
    refine XS.iload X193.here hx rfl (hb hby at_654) rfl ?_
    show Steps p.tables e below (T193.setTop (mkF m 656 #[.val (.long q1), .second, .val (.int p2), .val (.int p3), .val (.long v_), .second, .val (.int (Int32.ofNat aN)), .val (.ref b), .val (.int (Int32.ofNat G)), .val (.int (Int32.ofNat (aN + mm + 1))), .val (.int (1 : Int32))] [(.int (Int32.ofNat G)), (.long v_), (.int (Int32.ofNat aN)), (.int (17 : Int32)), (.ref b)])) _
    refine st195 _ ?_
    show Steps p.tables e below (T195.setTop (mkF m 659 #[.val (.long q1), .second, .val (.int p2), .val (.int p3), .val (.long v_), .second, .val (.int (Int32.ofNat aN)), .val (.ref b), .val (.int (Int32.ofNat G)), .val (.int (Int32.ofNat (aN + mm + 1))), .val (.int (1 : Int32))] [(.int (1 : Int32))])) _
    refine XS.ifNo X195.here hx rfl (hb hby at_659) rfl ((if0 _ _).trans (feq (by decide : ¬ (1 : Int32) = 0)).1) ?_
    show Steps p.tables e below (T195.setTop (mkF m 662 #[.val (.long q1), .second, .val (.int p2), .val (.int p3), .val (.long v_), .second, .val (.int (Int32.ofNat aN)), .val (.ref b), .val (.int (Int32.ofNat G)), .val (.int (Int32.ofNat (aN + mm + 1))), .val (.int (1 : Int32))] [])) _
    refine XS.iconst X195.here hx rfl (hb hby at_662) ?_
    show Steps p.tables e below (T195.setTop (mkF m 663 #[.val (.long q1), .second, .val (.int p2), .val (.int p3), .val (.long v_), .second, .val (.int (Int32.ofNat aN)), .val (.ref b), .val (.int (Int32.ofNat G)), .val (.int (Int32.ofNat (aN + mm + 1))), .val (.int (1 : Int32))] [(.int (1 : Int32))])) _
    refine XS.goto X195.here hx rfl (pc0 := 663) (pc' := 667) rfl (hb hby at_663) (by decide) (by decide) ?_
    show Steps p.tables e below (T195.setTop (mkF m 667 #[.val (.long q1), .second, .val (.int p2), .val (.int p3), .val (.long v_), .second, .val (.int (Int32.ofNat aN)), .val (.ref b), .val (.int (Int32.ofNat G)), .val (.int (Int32.ofNat (aN + mm + 1))), .val (.int (1 : Int32))] [(.int (1 : Int32))])) _
    refine XS.istore X195.here hx rfl (hb hby at_667) rfl (l' := #[.val (.long q1), .second, .val (.int p2), .val (.int p3), .val (.long v_), .second, .val (.int (Int32.ofNat aN)), .val (.ref b), .val (.int (Int32.ofNat G)), .val (.int (Int32.ofNat (aN + mm + 1))), .val (.int (1 : Int32))]) rfl ?_
    show Steps p.tables e below (T195.setTop (mkF m 669 #[.val (.long q1), .second, .val (.int p2), .val (.int p3), .val (.long v_), .second, .val (.int (Int32.ofNat aN)), .val (.ref b), .val (.int (Int32.ofNat G)), .val (.int (Int32.ofNat (aN + mm + 1))), .val (.int (1 : Int32))] [])) _
    refine XS.iload X195.here hx rfl (hb hby at_669) rfl ?_
    show Steps p.tables e below (T195.setTop (mkF m 671 #[.val (.long q1), .second, .val (.int p2), .val (.int p3), .val (.long v_), .second, .val (.int (Int32.ofNat aN)), .val (.ref b), .val (.int (Int32.ofNat G)), .val (.int (Int32.ofNat (aN + mm + 1))), .val (.int (1 : Int32))] [(.int (1 : Int32))])) _
    refine XS.ifNo X195.here hx rfl (hb hby at_671) rfl ((if0 _ _).trans (feq (by decide : ¬ (1 : Int32) = 0)).1) ?_
    show Steps p.tables e below (T195.setTop (mkF m 674 #[.val (.long q1), .second, .val (.int p2), .val (.int p3), .val (.long v_), .second, .val (.int (Int32.ofNat aN)), .val (.ref b), .val (.int (Int32.ofNat G)), .val (.int (Int32.ofNat (aN + mm + 1))), .val (.int (1 : Int32))] [])) _
    refine XS.aload X195.here hx rfl (hb hby at_674) rfl rfl ?_
    show Steps p.tables e below (T195.setTop (mkF m 676 #[.val (.long q1), .second, .val (.int p2), .val (.int p3), .val (.long v_), .second, .val (.int (Int32.ofNat aN)), .val (.ref b), .val (.int (Int32.ofNat G)), .val (.int (Int32.ofNat (aN + mm + 1))), .val (.int (1 : Int32))] [(.ref b)])) _
    refine XS.bipush X195.here hx rfl (hb hby at_676) ?_
    show Steps p.tables e below (T195.setTop (mkF m 678 #[.val (.long q1), .second, .val (.int p2), .val (.int p3), .val (.long v_), .second, .val (.int (Int32.ofNat aN)), .val (.ref b), .val (.int (Int32.ofNat G)), .val (.int (Int32.ofNat (aN + mm + 1))), .val (.int (1 : Int32))] [(.int (18 : Int32)), (.ref b)])) _
    refine XS.iload X195.here hx rfl (hb hby at_678) rfl ?_
    show Steps p.tables e below (T195.setTop (mkF m 680 #[.val (.long q1), .second, .val (.int p2), .val (.int p3), .val (.long v_), .second, .val (.int (Int32.ofNat aN)), .val (.ref b), .val (.int (Int32.ofNat G)), .val (.int (Int32.ofNat (aN + mm + 1))), .val (.int (1 : Int32))] [(.int (Int32.ofNat aN)), (.int (18 : Int32)), (.ref b)])) _
    refine XS.lload X195.here hx rfl (hb hby at_680) rfl ?_
    show Steps p.tables e below (T195.setTop (mkF m 682 #[.val (.long q1), .second, .val (.int p2), .val (.int p3), .val (.long v_), .second, .val (.int (Int32.ofNat aN)), .val (.ref b), .val (.int (Int32.ofNat G)), .val (.int (Int32.ofNat (aN + mm + 1))), .val (.int (1 : Int32))] [(.long v_), (.int (Int32.ofNat aN)), (.int (18 : Int32)), (.ref b)])) _
    refine XS.iload X195.here hx rfl (hb hby at_682) rfl ?_
    show Steps p.tables e below (T195.setTop (mkF m 684 #[.val (.long q1), .second, .val (.int p2), .val (.int p3), .val (.long v_), .second, .val (.int (Int32.ofNat aN)), .val (.ref b), .val (.int (Int32.ofNat G)), .val (.int (Int32.ofNat (aN + mm + 1))), .val (.int (1 : Int32))] [(.int (Int32.ofNat G)), (.long v_), (.int (Int32.ofNat aN)), (.int (18 : Int32)), (.ref b)])) _
    refine st196 _ ?_
    show Steps p.tables e below (T196.setTop (mkF m 687 #[.val (.long q1), .second, .val (.int p2), .val (.int p3), .val (.long v_), .second, .val (.int (Int32.ofNat aN)), .val (.ref b), .val (.int (Int32.ofNat G)), .val (.int (Int32.ofNat (aN + mm + 1))), .val (.int (1 : Int32))] [(.int (1 : Int32))])) _
    refine XS.ifNo X196.here hx rfl (hb hby at_687) rfl ((if0 _ _).trans (feq (by decide : ¬ (1 : Int32) = 0)).1) ?_
    show Steps p.tables e below (T196.setTop (mkF m 690 #[.val (.long q1), .second, .val (.int p2), .val (.int p3), .val (.long v_), .second, .val (.int (Int32.ofNat aN)), .val (.ref b), .val (.int (Int32.ofNat G)), .val (.int (Int32.ofNat (aN + mm + 1))), .val (.int (1 : Int32))] [])) _
    refine XS.iconst X196.here hx rfl (hb hby at_690) ?_
    show Steps p.tables e below (T196.setTop (mkF m 691 #[.val (.long q1), .second, .val (.int p2), .val (.int p3), .val (.long v_), .second, .val (.int (Int32.ofNat aN)), .val (.ref b), .val (.int (Int32.ofNat G)), .val (.int (Int32.ofNat (aN + mm + 1))), .val (.int (1 : Int32))] [(.int (1 : Int32))])) _
    refine XS.goto X196.here hx rfl (pc0 := 691) (pc' := 695) rfl (hb hby at_691) (by decide) (by decide) ?_
    show Steps p.tables e below (T196.setTop (mkF m 695 #[.val (.long q1), .second, .val (.int p2), .val (.int p3), .val (.long v_), .second, .val (.int (Int32.ofNat aN)), .val (.ref b), .val (.int (Int32.ofNat G)), .val (.int (Int32.ofNat (aN + mm + 1))), .val (.int (1 : Int32))] [(.int (1 : Int32))])) _
    refine XS.istore X196.here hx rfl (hb hby at_695) rfl (l' := #[.val (.long q1), .second, .val (.int p2), .val (.int p3), .val (.long v_), .second, .val (.int (Int32.ofNat aN)), .val (.ref b), .val (.int (Int32.ofNat G)), .val (.int (Int32.ofNat (aN + mm + 1))), .val (.int (1 : Int32))]) rfl ?_
    show Steps p.tables e below (T196.setTop (mkF m 697 #[.val (.long q1), .second, .val (.int p2), .val (.int p3), .val (.long v_), .second, .val (.int (Int32.ofNat aN)), .val (.ref b), .val (.int (Int32.ofNat G)), .val (.int (Int32.ofNat (aN + mm + 1))), .val (.int (1 : Int32))] [])) _
    refine XS.iload X196.here hx rfl (hb hby at_697) rfl ?_
    show Steps p.tables e below (T196.setTop (mkF m 699 #[.val (.long q1), .second, .val (.int p2), .val (.int p3), .val (.long v_), .second, .val (.int (Int32.ofNat aN)), .val (.ref b), .val (.int (Int32.ofNat G)), .val (.int (Int32.ofNat (aN + mm + 1))), .val (.int (1 : Int32))] [(.int (1 : Int32))])) _
    refine XS.ifNo X196.here hx rfl (hb hby at_699) rfl ((if0 _ _).trans (feq (by decide : ¬ (1 : Int32) = 0)).1) ?_
    show Steps p.tables e below (T196.setTop (mkF m 702 #[.val (.long q1), .second, .val (.int p2), .val (.int p3), .val (.long v_), .second, .val (.int (Int32.ofNat aN)), .val (.ref b), .val (.int (Int32.ofNat G)), .val (.int (Int32.ofNat (aN + mm + 1))), .val (.int (1 : Int32))] [])) _
    refine XS.aload X196.here hx rfl (hb hby at_702) rfl rfl ?_
    exact k_)
  obtain ⟨_, _, ⟨T198, L198, k198, n198⟩, -, X198, ⟨Lc198, hQ198, l198, y198, z198⟩, st198⟩ := Jvm.LawKit.callS X196 hx (y := (⟨"com/example/termite/termite/protocol/VarintsWriteUnsignedPinLaw", "cell", "([BIIJI)Z"⟩ : MethodName)) hown (mvT hZ (hw _ (List.mem_of_getElem? (i := 10) rfl))) (mvT hZ (hw _ (List.mem_of_getElem? (i := 11) rfl))) (mvT hZ (hw _ (List.mem_of_getElem? (i := 3) rfl))) (mvT hZ (hw _ (List.mem_of_getElem? (i := 12) rfl))) (by decide) (backOf (W := 0) (rmCg l Z a0 hw [] b v_ 19 aN mm G T168.heap n0 Z169 eG (by decide) b1 b2 m1 m2 VB) hZ (hw _ (List.mem_of_getElem? (i := 12) rfl)) (hw _ (List.mem_of_getElem? (i := 3) rfl)) (by decide) (by decide)) (g := (mkF m 712 #[.val (.long q1), .second, .val (.int p2), .val (.int p3), .val (.long v_), .second, .val (.int (Int32.ofNat aN)), .val (.ref b), .val (.int (Int32.ofNat G)), .val (.int (Int32.ofNat (aN + mm + 1))), .val (.int (1 : Int32))] [(.int (Int32.ofNat G)), (.long v_), (.int (Int32.ofNat aN)), (.int (19 : Int32)), (.ref b)])) rfl (by rw [hml]; rfl) (argsL := [(.ref b), (.int (19 : Int32)), (.int (Int32.ofNat aN)), (.long v_), (.int (Int32.ofNat G))]) (rest := []) (lenOf pd_2 rfl) rfl (by show 2 * 0 + _ ≤ _; exact Nat.le_of_eq rfl) (hb hby at_712) (fun _ _ => ⟨rfl, e196, (by decide : 1 + 0 ≤ _), (by decide : 20 + 0 ≤ _)⟩)
  dsimp only [Pt.U, Pt.locs, Pt.cells, Pt.slots] at X198 l198 y198 z198 st198 hQ198
  rw [l198, y198, z198] at X198
  obtain ⟨hv198, N198q, e198⟩ := hQ198
  rw [hv198] at st198
  have N198 := Fr.app N196 N198q
  have pre199 : ∀ t_, Steps p.tables e below (T198.setTop (mkF m 727 #[.val (.long q1), .second, .val (.int p2), .val (.int p3), .val (.long v_), .second, .val (.int (Int32.ofNat aN)), .val (.ref b), .val (.int (Int32.ofNat G)), .val (.int (Int32.ofNat (aN + mm + 1))), .val (.int (1 : Int32))] [(.int (1 : Int32))])) t_ → Steps p.tables e below (s₁.setTop (entryFrame m #[(.long q1), (.int p2), (.int p3)] maxLocals)) t_ := fun t_ k_ => pre197 _ (by
    show Steps p.tables e below (T196.setTop (mkF m 704 #[.val (.long q1), .second, .val (.int p2), .val (.int p3), .val (.long v_), .second, .val (.int (Int32.ofNat aN)), .val (.ref b), .val (.int (Int32.ofNat G)), .val (.int (Int32.ofNat (aN + mm + 1))), .val (.int (1 : Int32))] [(.ref b)])) _
    refine XS.bipush X196.here hx rfl (hb hby at_704) ?_
    show Steps p.tables e below (T196.setTop (mkF m 706 #[.val (.long q1), .second, .val (.int p2), .val (.int p3), .val (.long v_), .second, .val (.int (Int32.ofNat aN)), .val (.ref b), .val (.int (Int32.ofNat G)), .val (.int (Int32.ofNat (aN + mm + 1))), .val (.int (1 : Int32))] [(.int (19 : Int32)), (.ref b)])) _
    refine XS.iload X196.here hx rfl (hb hby at_706) rfl ?_
    show Steps p.tables e below (T196.setTop (mkF m 708 #[.val (.long q1), .second, .val (.int p2), .val (.int p3), .val (.long v_), .second, .val (.int (Int32.ofNat aN)), .val (.ref b), .val (.int (Int32.ofNat G)), .val (.int (Int32.ofNat (aN + mm + 1))), .val (.int (1 : Int32))] [(.int (Int32.ofNat aN)), (.int (19 : Int32)), (.ref b)])) _
    refine XS.lload X196.here hx rfl (hb hby at_708) rfl ?_
    show Steps p.tables e below (T196.setTop (mkF m 710 #[.val (.long q1), .second, .val (.int p2), .val (.int p3), .val (.long v_), .second, .val (.int (Int32.ofNat aN)), .val (.ref b), .val (.int (Int32.ofNat G)), .val (.int (Int32.ofNat (aN + mm + 1))), .val (.int (1 : Int32))] [(.long v_), (.int (Int32.ofNat aN)), (.int (19 : Int32)), (.ref b)])) _
    refine XS.iload X196.here hx rfl (hb hby at_710) rfl ?_
    show Steps p.tables e below (T196.setTop (mkF m 712 #[.val (.long q1), .second, .val (.int p2), .val (.int p3), .val (.long v_), .second, .val (.int (Int32.ofNat aN)), .val (.ref b), .val (.int (Int32.ofNat G)), .val (.int (Int32.ofNat (aN + mm + 1))), .val (.int (1 : Int32))] [(.int (Int32.ofNat G)), (.long v_), (.int (Int32.ofNat aN)), (.int (19 : Int32)), (.ref b)])) _
    refine st198 _ ?_
    show Steps p.tables e below (T198.setTop (mkF m 715 #[.val (.long q1), .second, .val (.int p2), .val (.int p3), .val (.long v_), .second, .val (.int (Int32.ofNat aN)), .val (.ref b), .val (.int (Int32.ofNat G)), .val (.int (Int32.ofNat (aN + mm + 1))), .val (.int (1 : Int32))] [(.int (1 : Int32))])) _
    refine XS.ifNo X198.here hx rfl (hb hby at_715) rfl ((if0 _ _).trans (feq (by decide : ¬ (1 : Int32) = 0)).1) ?_
    show Steps p.tables e below (T198.setTop (mkF m 718 #[.val (.long q1), .second, .val (.int p2), .val (.int p3), .val (.long v_), .second, .val (.int (Int32.ofNat aN)), .val (.ref b), .val (.int (Int32.ofNat G)), .val (.int (Int32.ofNat (aN + mm + 1))), .val (.int (1 : Int32))] [])) _
    refine XS.iconst X198.here hx rfl (hb hby at_718) ?_
    show Steps p.tables e below (T198.setTop (mkF m 719 #[.val (.long q1), .second, .val (.int p2), .val (.int p3), .val (.long v_), .second, .val (.int (Int32.ofNat aN)), .val (.ref b), .val (.int (Int32.ofNat G)), .val (.int (Int32.ofNat (aN + mm + 1))), .val (.int (1 : Int32))] [(.int (1 : Int32))])) _
    refine XS.goto X198.here hx rfl (pc0 := 719) (pc' := 723) rfl (hb hby at_719) (by decide) (by decide) ?_
    show Steps p.tables e below (T198.setTop (mkF m 723 #[.val (.long q1), .second, .val (.int p2), .val (.int p3), .val (.long v_), .second, .val (.int (Int32.ofNat aN)), .val (.ref b), .val (.int (Int32.ofNat G)), .val (.int (Int32.ofNat (aN + mm + 1))), .val (.int (1 : Int32))] [(.int (1 : Int32))])) _
    refine XS.istore X198.here hx rfl (hb hby at_723) rfl (l' := #[.val (.long q1), .second, .val (.int p2), .val (.int p3), .val (.long v_), .second, .val (.int (Int32.ofNat aN)), .val (.ref b), .val (.int (Int32.ofNat G)), .val (.int (Int32.ofNat (aN + mm + 1))), .val (.int (1 : Int32))]) rfl ?_
    show Steps p.tables e below (T198.setTop (mkF m 725 #[.val (.long q1), .second, .val (.int p2), .val (.int p3), .val (.long v_), .second, .val (.int (Int32.ofNat aN)), .val (.ref b), .val (.int (Int32.ofNat G)), .val (.int (Int32.ofNat (aN + mm + 1))), .val (.int (1 : Int32))] [])) _
    refine XS.iload X198.here hx rfl (hb hby at_725) rfl ?_
    exact k_)
  obtain ⟨fs, hr, hrun, hended, hW, hsame⟩ := X198.leave (v := some (.int (1 : Int32))) (fun h => by rw [Bd.returns] at h; cases h)
  refine ⟨_, _, pre199 _ ?_, hrun, hended, _, _, rfl, ?_, ⟨_, rfl⟩, hW, hsame.mono (by decide) (by decide)⟩
  · show Steps p.tables e below (T198.setTop (mkF m 727 #[.val (.long q1), .second, .val (.int p2), .val (.int p3), .val (.long v_), .second, .val (.int (Int32.ofNat aN)), .val (.ref b), .val (.int (Int32.ofNat G)), .val (.int (Int32.ofNat (aN + mm + 1))), .val (.int (1 : Int32))] [(.int (1 : Int32))])) _
    exact retN X198 hx (t := .boolean) Bd.returns (by simp) (hb hby at_727) hr
  · show Qrm0 Z q1 p2 p3 h0 n0 _ T198.heap _
    rw [e198]
    exact ⟨rfl, N198⟩
set_option maxRecDepth 65536 in
set_option maxHeartbeats 40000000 in
theorem comes_1 {Post : Tables → Env → Array Value → State → Outcome → State → Prop} (hpost : ∀ tb e args s v u, (limb_1_1.after args s (.returned v) u = true ∧ limb_1_2.after args s (.returned v) u = true ∧ True) → FrameEnd s (.returned v) u (Jvm.fieldLocs frame_1_writes args s ++ Jvm.arrayLocs frame_1_arrays args s ++ Jvm.staticLocs frame_1_statics s) 16 128 → Post tb e args s (.returned v) u) :
    ArmFor flags0 classFile x code maxLocals ret World_1 tables_1 room_1 Calls_1 rest_1 Pre_1 Post := by
  intro l hfl _ _ p e ha hc hk s m args below hf hA hF happ hP
  obtain ⟨hcalls, hrest, hpre⟩ := hP
  obtain ⟨-, -, -, hnamed, -, -, -, hat⟩ := (Spec.applies_iff hf).mp happ
  obtain ⟨hg, hn⟩ := and_e (Cond.before_iff.mp (show (Jvm.Cond.and given_1 narrow_1).before args s = true from hpre))
  obtain ⟨gg1, gg2⟩ := and_e hg
  obtain ⟨gg3, gg4⟩ := and_e gg2
  obtain ⟨gg5, gg6⟩ := and_e gg4
  obtain ⟨w0, w1, w2, rfl⟩ : ∃ w0 w1 w2 : Value, args = #[w0, w1, w2] := by
    have hs : args.size = 3 := by simpa [Cond.value, given_1] using gg1
    obtain ⟨L⟩ := args
    match L, hs with
    | [w0, w1, w2], _ => exact ⟨w0, w1, w2, rfl⟩
  have hw := fun d (hd : d ∈ tables_1) => atoms_spec (ws := Jvm.Cond.code x code maxLocals ret :: tables_1) hat d (List.mem_cons_of_mem _ hd)
  have hfit : Fit s := fun {y c} hc i hi => by
    obtain ⟨ha, rfl⟩ := Array.getElem?_eq_some_iff.mp hc
    have q := List.all_eq_true.mp ((Array.all_eq_true_iff_forall_mem.mp hF) _ (Array.getElem_mem ha)) i (List.mem_range.mpr hi)
    simpa [Array.getElem?_eq_getElem hi] using q
  obtain ⟨i0, ei0⟩ := isL_v gg3
  obtain rfl : w0 = (.long i0) := Option.some.inj ei0
  obtain ⟨i1, ei1⟩ := is_v gg5
  obtain rfl : w1 = (.int i1) := Option.some.inj ei1
  obtain ⟨i2, ei2⟩ := is_v gg6
  obtain rfl : w2 = (.int i2) := Option.some.inj ei2
  obtain ⟨n, o, h1, h2, h3, _, L, rfl, ⟨rfl, N⟩, hq⟩ := rm0 l s _ hw tables_1 i0 i1 i2 s.heap s.heap.size (Nat.le_refl _)  p e ha hc hk s m _ below hf ((Spec.applies_iff_loose hf).mp happ).1 ⟨rfl, State.Warmed39.refl s, rfl⟩ trivial
  refine ⟨n, _, h1, h2, h3, hpost _ _ _ _ _ _ ⟨Cond.after_iff.mpr rfl, Cond.after_iff.mpr (eq_i res_at (Term.int_eval (1)) rfl), trivial⟩ ⟨hq.1, hq.2.1, (hq.2.2.sift fun y hy => Or.inr (N y hy)).mono (by decide) (by decide)⟩⟩
theorem main_1_1 : Claimed_1_1 := comes_1 fun _ _ _ _ _ _ h hF => ⟨h.1, hF⟩
theorem main_1_2 : Claimed_1_2 := comes_1 fun _ _ _ _ _ _ h hF => ⟨h.2.1, hF⟩
end Jvm.Pilot.@@N@@
namespace Jvm.Pilot.@@N@@
open Jvm Jvm.ClassFile Sem Op Lib Jvm.Free Jvm.Stand Jvm.Pilot.@@N@@.Jvm.D
/-! MADE BY PROGRAM (witnessworld.py) out of the Statement's table words and the real class files: 9 classes; the members and pool entries that the words name. The judged class is class 1, her method 3. -/
namespace start1
open Jvm.ClassFile
def u (s : String) : CpInfo := .utf8 (stringToUtf16 s)
/-- a pool by its gaps: so many unusable entries, then the entry; so many at the end -/
def gap : Nat → List CpInfo → List CpInfo
  | 0, r => r
  | n + 1, r => .unusable :: gap n r
def poolList (es : List (Nat × CpInfo)) (last : Nat) : List CpInfo := es.foldr (fun e r => gap e.1 (e.2 :: r)) (gap last [])
def pool (es : List (Nat × CpInfo)) (last : Nat) : Array CpInfo := ⟨poolList es last⟩
def fileOf (pool : Array CpInfo) (this : Nat) (attrs : Array Attribute := #[]) (ms : Array MethodInfo := #[]) (fl : Nat := 33) (sup : Nat := 0) (ifs : Array Nat := #[]) (fds : Array FieldInfo := #[]) : ClassFile where
  minorVersion := 0
  majorVersion := 65
  constantPool := pool
  accessFlags := fl
  thisClass := this
  superClass := sup
  interfaces := ifs
  fields := fds
  methods := ms
  attributes := attrs
def plain (name : String) (sup : Option ClassId) : Class where
  name := name
  kind := .ordinary
  loader := none
  accessFlags := 33
  super := sup
  interfaces := #[]
  cf := none
  fields := #[]
  methods := #[]
  instanceTypes := #[]
  staticTypes := #[]
  resolved := #[]
  callSites := []
  init := .initialized
  statics := none
  mirror := none

def pool0 : Array CpInfo := pool [(5, u "<init>"), (0, u "()V"), (1, .class_ 10), (1, u "java/lang/Object")] 113

def k0m0 : Method := { name := "<init>", desc := "()V", sig := { parameters := [], returnType := none }, accessFlags := 1, code := none }
/-- java/lang/Object -/
def k0 : Class := { plain "java/lang/Object" none with
  accessFlags := 33
  interfaces := #[]
  cf := some (fileOf pool0 8 #[] #[{ accessFlags := 1, nameIndex := 5, descriptorIndex := 6, attributes := #[] }] 33 0 #[] #[])
  fields := #[]
  methods := #[k0m0]
  instanceTypes := #[]
  staticTypes := #[]
  resolved := Array.replicate 124 none
  statics := none }

def pool1 : Array CpInfo := pool [(2, .class_ 4), (1, u "java/lang/Object"), (0, u "<init>"), (0, u "()V"), (0, .long 127), (1, .methodref 10 11), (0, .class_ 12), (0, .nameAndType 13 14), (0, u "com/example/termite/termite/protocol/VarintsWriteUnsignedPinLaw"), (0, u "groups"), (0, u "(J)I"), (0, .methodref 16 17), (0, .class_ 18), (0, .nameAndType 19 20), (0, u "com/example/termite/termite/protocol/Varints"), (0, u "writeUnsigned"), (0, u "(J[BI)I"), (0, .methodref 10 22), (0, .nameAndType 23 24), (0, u "cell"), (0, u "([BIIJI)Z"), (3, u "law"), (0, u "(JII)Z")] 4

def k1m0 : Method := { name := "<init>", desc := "()V", sig := { parameters := [], returnType := none }, accessFlags := 2, code := none }
def k1c1 : Code := { maxStack := 4, maxLocals := 2, code := method_2_code, exceptionTable := #[], attributes := #[] }
def k1m1 : Method := { name := "groups", desc := "(J)I", sig := { parameters := [.long], returnType := some .int }, accessFlags := 10, code := some k1c1 }
def k1c2 : Code := { maxStack := 4, maxLocals := 9, code := method_3_code, exceptionTable := #[], attributes := #[] }
def k1m2 : Method := { name := "cell", desc := "([BIIJI)Z", sig := { parameters := [(.array .byte), .int, .int, .long, .int], returnType := some .boolean }, accessFlags := 10, code := some k1c2 }
def k1c3 : Code := { maxStack := 6, maxLocals := 11, code := code, exceptionTable := #[], attributes := #[] }
def k1m3 : Method := { name := "law", desc := "(JII)Z", sig := { parameters := [.long, .int, .int], returnType := some .boolean }, accessFlags := 9, code := some k1c3 }
/-- com/example/termite/termite/protocol/VarintsWriteUnsignedPinLaw -/
def k1 : Class := { plain "com/example/termite/termite/protocol/VarintsWriteUnsignedPinLaw" (some 0) with
  accessFlags := 49
  interfaces := #[]
  cf := some (fileOf pool1 10 #[] #[{ accessFlags := 2, nameIndex := 5, descriptorIndex := 6, attributes := #[] }, { accessFlags := 10, nameIndex := 13, descriptorIndex := 14, attributes := #[] }, { accessFlags := 10, nameIndex := 23, descriptorIndex := 24, attributes := #[] }, { accessFlags := 9, nameIndex := 28, descriptorIndex := 29, attributes := #[] }] 49 2 #[] #[])
  fields := #[]
  methods := #[k1m0, k1m1, k1m2, k1m3]
  instanceTypes := #[]
  staticTypes := #[]
  resolved := Array.replicate 34 none
  statics := none }

def pool2 : Array CpInfo := pool [(2, .class_ 4), (1, u "java/lang/Object"), (0, u "<init>"), (0, u "()V"), (7, .class_ 16), (1, u "com/example/termite/termite/protocol/Varints"), (0, u "writeUnsigned"), (49, u "(J[BI)I"), (4, .long 18446744073709551488), (1, .long 127), (1, .long 128)] 16

def k2m0 : Method := { name := "<init>", desc := "()V", sig := { parameters := [], returnType := none }, accessFlags := 2, code := none }
def k2c1 : Code := { maxStack := 6, maxLocals := 7, code := prog_222_method_17_code, exceptionTable := #[], attributes := #[] }
def k2m1 : Method := { name := "writeUnsigned", desc := "(J[BI)I", sig := { parameters := [.long, (.array .byte), .int], returnType := some .int }, accessFlags := 8, code := some k2c1 }
/-- com/example/termite/termite/protocol/Varints -/
def k2 : Class := { plain "com/example/termite/termite/protocol/Varints" (some 0) with
  accessFlags := 33
  interfaces := #[]
  cf := some (fileOf pool2 14 #[] #[{ accessFlags := 2, nameIndex := 5, descriptorIndex := 6, attributes := #[] }, { accessFlags := 8, nameIndex := 17, descriptorIndex := 67, attributes := #[] }] 33 2 #[] #[])
  fields := #[]
  methods := #[k2m0, k2m1]
  instanceTypes := #[]
  staticTypes := #[]
  resolved := Array.replicate 93 none
  statics := none }

def pool3 : Array CpInfo := pool [(1, u "java/lang/Cloneable"), (0, .class_ 1), (0, u "java/lang/Object"), (0, .class_ 3)] 3

/-- java/lang/Cloneable -/
def k3 : Class := { plain "java/lang/Cloneable" (some 0) with
  accessFlags := 1537
  interfaces := #[]
  cf := some (fileOf pool3 2 #[] #[] 1537 4 #[] #[])
  fields := #[]
  methods := #[]
  instanceTypes := #[]
  staticTypes := #[]
  resolved := Array.replicate 8 none
  statics := none }

def pool4 : Array CpInfo := pool [(1, u "java/io/Serializable"), (0, .class_ 1), (0, u "java/lang/Object"), (0, .class_ 3)] 3

/-- java/io/Serializable -/
def k4 : Class := { plain "java/io/Serializable" (some 0) with
  accessFlags := 1537
  interfaces := #[]
  cf := some (fileOf pool4 2 #[] #[] 1537 4 #[] #[])
  fields := #[]
  methods := #[]
  instanceTypes := #[]
  staticTypes := #[]
  resolved := Array.replicate 8 none
  statics := none }

/-- the primitive byte -/
def k5 : Class := { plain "byte" none with kind := .primitive 'B', accessFlags := 0x411 }
/-- [B -/
def k6 : Class := { plain "[B" (some 0) with kind := .array 5 .byte, interfaces := #[3, 4], accessFlags := 1041 }

/-- the primitive int -/
def k7 : Class := { plain "int" none with kind := .primitive 'I', accessFlags := 0x411 }
/-- [I -/
def k8 : Class := { plain "[I" (some 0) with kind := .array 7 .int, interfaces := #[3, 4], accessFlags := 1041 }

def heap : Heap := #[]
def classes : Array Class := #[k0, k1, k2, k3, k4, k5, k6, k7, k8]
def interned : List (Array UInt16 × Addr) := []
def slotsUsed : Nat := 0
def theMethod : MethodId := ⟨1, 3⟩
def args0 : Array Value := #[.long 500, .int 1, .int 2]
def aboutOver (below : List Frame) : State where
  vm := { classes := classes, interned := interned.toArray }
  heap := heap
  slotsUsed := slotsUsed
  threads := #[{ frames := .invoking theMethod args0 :: below }]
def below0 : List Frame := [.native { method := ⟨0, 0⟩, args := #[] }]
def about1 : State := aboutOver below0
def p0 : Program := .bare "" "" ""
def e0 : Env := launch0.env 0 0 0
theorem w_frames : about1.frames = Frame.invoking theMethod args0 :: below0 := rfl
set_option maxRecDepth 65536 in
theorem w_args : argsFit about1.vm theMethod args0 = true := by decide +kernel
set_option maxRecDepth 65536 in
theorem w_heap : heapFits about1 = true := by decide +kernel
set_option maxRecDepth 65536 in
theorem w_runnable : about1.curStatus? = some .runnable := by decide +kernel
set_option maxRecDepth 65536 in
theorem w_alone : about1.alone = true := by decide +kernel
set_option maxRecDepth 65536 in
theorem w_named : about1.methodNamed? x = some theMethod := by decide +kernel
set_option maxRecDepth 65536 in
theorem w_hears : about1.hears theMethod below0 = true := by decide +kernel
set_option maxRecDepth 65536 in
theorem w_ripe : about1.ripe theMethod args0 below0 = true := by decide +kernel
theorem w_running : about1.status = .running := rfl
set_option maxRecDepth 65536 in
theorem w_room : about1.hasRoom e0.platform room_1 = true :=
  launch0.hasRoom_least _ room_1 (by decide +kernel) (by decide +kernel) (by decide +kernel) (by decide +kernel) (by decide +kernel) (by decide +kernel)
theorem allAtoms_all (ts : List Jvm.Cond) (a : Array Jvm.Value) (st : Jvm.State) : (allAtoms ts).before a st = ts.all (fun c => c.before a st) := by
  induction ts with
  | nil => rfl
  | cons c t ih =>
    show (Jvm.Cond.and c (allAtoms t)).before a st = _
    rw [Jvm.Cond.before_and, ih, List.all_cons]
def words1 : List Jvm.Cond := Jvm.Cond.code x code maxLocals ret :: tables_1
/-- a 'code' word, met by the world's own term for the bytes: nothing is compared byte by byte -/
theorem code_word {y : MethodName} {bytes : ByteArray} {mx : Nat} {rt : Option FieldType} {a : Array Value} {s : State} {m : MethodId} {meth : Method} {c : Code} (h1 : s.methodNamed? y = some m) (h2 : s.vm.method? m = some meth) (h3 : meth.code = some c) (h4 : c.code = bytes)
    (h5 : (c.maxLocals == mx && c.exceptionTable.isEmpty && decide (c.maxStack ≤ mostOperands) && decide (meth.sig.returnType = rt) && !meth.locks && decide (parseMethodDescriptor y.desc = some meth.sig)) = true) : (Jvm.Cond.code y bytes mx rt).before a s = true := by
  simp only [Bool.and_eq_true, beq_iff_eq, Bool.not_eq_true', decide_eq_true_eq] at h5
  obtain ⟨⟨⟨⟨⟨g1, g2⟩, g3⟩, g4⟩, g5⟩, g6⟩ := h5
  simp [Cond.before, Cond.holds, Cond.value, h1, h2, h3, h4, g1, g2, g3, g4, g5, g6]
def isCode : Jvm.Cond → Bool
  | .code _ _ _ _ => true
  | _ => false
theorem all_split {L : List Jvm.Cond} {P : Jvm.Cond → Bool} (h1 : L.all (fun c => isCode c || P c) = true) (h2 : ∀ c ∈ L.filter isCode, P c = true) : L.all P = true := by
  refine List.all_eq_true.mpr fun c hc => ?_
  have h := List.all_eq_true.mp h1 c hc
  rcases Bool.eq_false_or_eq_true (isCode c) with hi | hi
  · exact h2 c (List.mem_filter.mpr ⟨hc, hi⟩)
  · simpa [hi] using h
set_option maxRecDepth 65536 in
theorem w_c0 : (Jvm.Cond.code x code maxLocals ret).before args0 about1 = true := code_word (m := ⟨1, 3⟩) (meth := k1m3) (c := k1c3) (by decide +kernel) rfl rfl rfl (by decide +kernel)
set_option maxRecDepth 65536 in
theorem w_c1 : (Jvm.Cond.code ({ cls := "com/example/termite/termite/protocol/VarintsWriteUnsignedPinLaw", name := "groups", desc := "(J)I" } : Jvm.MethodName) method_2_code (2 : Nat) (Option.some Jvm.ClassFile.FieldType.int)).before args0 about1 = true := code_word (m := ⟨1, 1⟩) (meth := k1m1) (c := k1c1) (by decide +kernel) rfl rfl rfl (by decide +kernel)
set_option maxRecDepth 65536 in
theorem w_c2 : (Jvm.Cond.code ({ cls := "com/example/termite/termite/protocol/Varints", name := "writeUnsigned", desc := "(J[BI)I" } : Jvm.MethodName) prog_222_method_17_code (7 : Nat) (Option.some Jvm.ClassFile.FieldType.int)).before args0 about1 = true := code_word (m := ⟨2, 1⟩) (meth := k2m1) (c := k2c1) (by decide +kernel) rfl rfl rfl (by decide +kernel)
set_option maxRecDepth 65536 in
theorem w_c3 : (Jvm.Cond.code ({ cls := "com/example/termite/termite/protocol/VarintsWriteUnsignedPinLaw", name := "cell", desc := "([BIIJI)Z" } : Jvm.MethodName) method_3_code (9 : Nat) (Option.some Jvm.ClassFile.FieldType.boolean)).before args0 about1 = true := code_word (m := ⟨1, 2⟩) (meth := k1m2) (c := k1c2) (by decide +kernel) rfl rfl rfl (by decide +kernel)
def codes1 : List Jvm.Cond := [Jvm.Cond.code x code maxLocals ret, Jvm.Cond.code ({ cls := "com/example/termite/termite/protocol/VarintsWriteUnsignedPinLaw", name := "groups", desc := "(J)I" } : Jvm.MethodName) method_2_code (2 : Nat) (Option.some Jvm.ClassFile.FieldType.int), Jvm.Cond.code ({ cls := "com/example/termite/termite/protocol/Varints", name := "writeUnsigned", desc := "(J[BI)I" } : Jvm.MethodName) prog_222_method_17_code (7 : Nat) (Option.some Jvm.ClassFile.FieldType.int), Jvm.Cond.code ({ cls := "com/example/termite/termite/protocol/VarintsWriteUnsignedPinLaw", name := "cell", desc := "([BIIJI)Z" } : Jvm.MethodName) method_3_code (9 : Nat) (Option.some Jvm.ClassFile.FieldType.boolean)]
set_option maxRecDepth 65536 in
theorem codes_eq : words1.filter isCode = codes1 := rfl
theorem w_codes : ∀ c ∈ words1.filter isCode, c.before args0 about1 = true := by
  rw [codes_eq]
  intro c hc
  simp only [codes1, List.mem_cons, List.not_mem_nil, or_false] at hc
  rcases hc with rfl | rfl | rfl | rfl
  · exact w_c0
  · exact w_c1
  · exact w_c2
  · exact w_c3
set_option maxRecDepth 65536 in
theorem w_t1 : words1.all (fun c => isCode c || c.before args0 about1) = true := by decide +kernel
theorem w_tables : (allAtoms (Jvm.Cond.code x code maxLocals ret :: tables_1)).before args0 about1 = true := by
  rw [allAtoms_all]
  show words1.all (fun c => c.before args0 about1) = true
  refine all_split ?_ w_codes
  rw [w_t1]
set_option maxRecDepth 65536 in
theorem w_case : (Jvm.Cond.and given_1 narrow_1).before args0 about1 = true := by decide +kernel
theorem w_applies : (headSpec (Jvm.Cond.code x code maxLocals ret :: tables_1) room_1).applies x e0.platform about1 = true :=
  (Spec.applies_iff w_frames).mpr ⟨w_running, w_runnable, w_alone, w_named, w_hears, w_ripe, w_room, w_tables⟩
theorem atStart : AtStart classFile x code maxLocals ret World_1 tables_1 room_1 Calls_1 rest_1 Pre_1 launch0 p0 e0 about1 theMethod args0 below0 :=
  ⟨lists_1, trivial, launch0.admits_env _ _ _, launch0.least_env, fairChoices_fair.cas, fairChoices_fair.clock, w_frames, w_args, w_heap, w_applies, trivial, trivial, w_case⟩
end start1
theorem witness_1 : WitnessClaimed_1 := ⟨start1.p0, start1.e0, start1.about1, start1.theMethod, start1.args0, start1.below0, start1.atStart⟩
end Jvm.Pilot.@@N@@
