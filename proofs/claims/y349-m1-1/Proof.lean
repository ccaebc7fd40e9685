import JvmDerived
import JvmDerived.Pilot.@@N@@Statement
import JvmDerived.Pilot.@@N@@Code
set_option linter.unusedVariables false
set_option linter.unusedSimpArgs false
namespace Jvm.RoadKit
open Sem ClassFile Op Lib Jvm.Stand Jvm.Free Jvm.LawKit
section New
variable {p : Program} {l : Launch} {e : Env} {R : Room} {s : State} {m : MethodId} {args : Array Value} {below : List Frame} {meth : Method} {c : Code} {T : State} {locs : List Loc} {cells slots : Nat}
theorem retI (X : Stand p l e R s m args below meth c T locs cells slots) (hx : p.tables.exec = Jvm.exec) {pc : Nat} {Ls : Array Slot} {z : Int32} {rest : List Value} (hret : meth.sig.returnType = some .int) (hd : decode c.code pc = .ok (.ireturn, 1)) {fs : List Frame}
    (hl : ∀ (f : JFrame) (acts : List Action), f.method = m → f.locked = none → f.entered = [] → (doReturn e (T.setTop f) acts (some (.int z))).1 = T.setFrames fs) : Steps p.tables e below (T.setTop (mkF m pc Ls (.int z :: rest))) (T.setFrames fs) := by
  have hm' : T.vm.method? m = some meth := X.method'
  have hn : narrow .int (.int z) = .int z := rfl
  show Steps p.tables e below (T.setTop { method := m, pc := pc, locals := Ls, stack := _ :: rest, locked := none }) _
  jvm_step X.here [X.here.top, hx, hd, hm', hret, hn]
  first | (intro acts; rw [hl _ acts rfl rfl rfl]) | rw [hl _ _ rfl rfl rfl]
  exact Steps.refl _
theorem retJ (X : Stand p l e R s m args below meth c T locs cells slots) (hx : p.tables.exec = Jvm.exec) {pc : Nat} {Ls : Array Slot} {z : Int64} {rest : List Value} (hret : meth.sig.returnType = some .long) (hd : decode c.code pc = .ok (.lreturn, 1)) {fs : List Frame}
    (hl : ∀ (f : JFrame) (acts : List Action), f.method = m → f.locked = none → f.entered = [] → (doReturn e (T.setTop f) acts (some (.long z))).1 = T.setFrames fs) : Steps p.tables e below (T.setTop (mkF m pc Ls (.long z :: rest))) (T.setFrames fs) := by
  have hm' : T.vm.method? m = some meth := X.method'
  have hn : narrow .long (.long z) = .long z := rfl
  show Steps p.tables e below (T.setTop { method := m, pc := pc, locals := Ls, stack := _ :: rest, locked := none }) _
  jvm_step X.here [X.here.top, hx, hd, hm', hret, hn]
  first | (intro acts; rw [hl _ acts rfl rfl rfl]) | rw [hl _ _ rfl rfl rfl]
  exact Steps.refl _
end New
end Jvm.RoadKit
namespace Jvm.Pilot.@@N@@
open Jvm Jvm.ClassFile Sem Op Lib Jvm.Free Jvm.Stand Jvm.LawKit Jvm.RoadKit Bundle Jvm.Pilot.@@N@@.Jvm.D
theorem own_j1 {G : Prop} {A : Prop → Prop} (h1 : A G) (h2 : A G → G) : G := h2 h1
def own_next (c : Int64) : Int64 := ((c + (16 : Int64)) - (1 : Int64)) / (16 : Int64)
def own_loop : Nat → Int64 → Int64 → Int64
  | 0, t, _ => t
  | k + 1, t, c => if (1 : Int64) < c then own_loop k (t + own_next c) (own_next c) else t
theorem own_loop_s (k : Nat) (t c : Int64) : own_loop (k + 1) t c = if (1 : Int64) < c then own_loop k (t + own_next c) (own_next c) else t := rfl
theorem own_loop_z (t c : Int64) : own_loop 0 t c = t := rfl
theorem own_lt64 {x y : Int64} : x < y ↔ x.toInt < y.toInt := Int64.lt_iff_toInt_lt
theorem own_add64 {x y : Int64} (h1 : -9223372036854775808 ≤ x.toInt + y.toInt) (h2 : x.toInt + y.toInt < 9223372036854775808) : (x + y).toInt = x.toInt + y.toInt := by rw [Int64.toInt_add]; exact Int.bmod_eq_of_le (by omega) (by omega)
theorem own_sub64 {x y : Int64} (h1 : -9223372036854775808 ≤ x.toInt - y.toInt) (h2 : x.toInt - y.toInt < 9223372036854775808) : (x - y).toInt = x.toInt - y.toInt := by rw [Int64.toInt_sub]; exact Int.bmod_eq_of_le (by omega) (by omega)
theorem own_l16 : (16 : Int64).toInt = 16 := rfl
theorem own_l1 : (1 : Int64).toInt = 1 := rfl
theorem own_l0 : (0 : Int64).toInt = 0 := rfl
theorem own_l15 : (15 : Int64).toInt = 15 := rfl
theorem own_next_v {c : Int64} (h0 : 0 ≤ c.toInt) (h1 : c.toInt < 4611686018427387904) : (own_next c).toInt = (c.toInt + 15) / 16 := by
  have e1 : (c + (16 : Int64)).toInt = c.toInt + 16 := by rw [own_add64 (by rw [own_l16]; omega) (by rw [own_l16]; omega), own_l16]
  have e2 : ((c + (16 : Int64)) - (1 : Int64)).toInt = c.toInt + 15 := by rw [own_sub64 (by rw [e1, own_l1]; omega) (by rw [e1, own_l1]; omega), e1, own_l1]; omega
  have e3 := (c_ldiv ((c + (16 : Int64)) - (1 : Int64)) 16 16 rfl (by decide)).1 (by rw [e2]; omega)
  rw [own_next, e3, e2]
theorem own_m15 {c : Int64} (h0 : 0 ≤ c.toInt) (h1 : c.toInt < 4611686018427387904) : (c + (15 : Int64)) / (16 : Int64) = own_next c := by
  apply Int64.toInt_inj.mp
  have e1 : (c + (15 : Int64)).toInt = c.toInt + 15 := by rw [own_add64 (by rw [own_l15]; omega) (by rw [own_l15]; omega), own_l15]
  have e3 := (c_ldiv (c + (15 : Int64)) 16 16 rfl (by decide)).1 (by rw [e1]; omega)
  rw [e3, e1, own_next_v h0 h1]
theorem own_fuel : ∀ (k k' : Nat) (t c : Int64), 0 ≤ c.toInt → c.toInt < 4611686018427387904 → c.toInt ≤ k → c.toInt ≤ k' → own_loop k t c = own_loop k' t c := by
  intro k
  induction k with
  | zero =>
    intro k' t c h0 h1 h2 h3
    cases k' with
    | zero => rfl
    | succ k' => rw [own_loop_z, own_loop_s, if_neg (by rw [own_lt64, own_l1]; omega)]
  | succ k ih =>
    intro k' t c h0 h1 h2 h3
    cases k' with
    | zero => rw [own_loop_z, own_loop_s, if_neg (by rw [own_lt64, own_l1]; omega)]
    | succ k' =>
      rw [own_loop_s, own_loop_s]
      by_cases q : (1 : Int64) < c
      · rw [if_pos q, if_pos q]
        rw [own_lt64, own_l1] at q
        have e := own_next_v h0 h1
        exact ih k' _ _ (by rw [e]; omega) (by rw [e]; omega) (by rw [e]; omega) (by rw [e]; omega)
      · rw [if_neg q, if_neg q]
theorem own_plus : ∀ (k : Nat) (a t c : Int64), own_loop k (a + t) c = a + own_loop k t c := by
  intro k
  induction k with
  | zero => intro a t c; rfl
  | succ k ih =>
    intro a t c
    rw [own_loop_s, own_loop_s]
    by_cases q : (1 : Int64) < c
    · rw [if_pos q, if_pos q, Int64.add_assoc, ih]
    · rw [if_neg q, if_neg q]
def own_bytes (n : Int64) : Int64 := (4 : Int64) * n + (192 : Int64) * own_loop n.toInt.toNat (if (0 : Int64) < n then 1 else 0) n
theorem own_b0 : own_bytes 0 = 0 := by decide
theorem own_b1 : own_bytes 1 = 196 := by decide
theorem own_bn {n : Int64} (h1 : (1 : Int64) < n) (h2 : n.toInt < 4611686018427387904) : own_bytes n = own_bytes (own_next n) + (4 : Int64) * n + (188 : Int64) * own_next n := by
  rw [own_lt64, own_l1] at h1
  have e := own_next_v (c := n) (by omega) h2
  have p0 : (0 : Int64) < n := by rw [own_lt64, own_l0]; omega
  have p1 : (0 : Int64) < own_next n := by rw [own_lt64, own_l0, e]; omega
  obtain ⟨k, hk⟩ : ∃ k, n.toInt.toNat = k + 1 := ⟨n.toInt.toNat - 1, by omega⟩
  have s1 : own_loop n.toInt.toNat 1 n = own_next n + own_loop (own_next n).toInt.toNat 1 (own_next n) := by
    rw [hk, own_loop_s, if_pos (by rw [own_lt64, own_l1]; omega), Int64.add_comm, own_plus]
    congr 1
    exact own_fuel _ _ _ _ (by omega) (by omega) (by omega) (by omega)
  rw [own_bytes, own_bytes, if_pos p0, if_pos p1, s1]
  generalize own_loop (own_next n).toInt.toNat 1 (own_next n) = x
  generalize own_next n = m
  apply Int64.toInt_inj.mp
  have l4 : (4 : Int64).toInt = 4 := rfl
  have l192 : (192 : Int64).toInt = 192 := rfl
  have l188 : (188 : Int64).toInt = 188 := rfl
  have a1 := c_lmul 4 n
  have a2 := c_ladd m x
  have a3 := c_lmul 192 (m + x)
  have a4 := c_ladd (4 * n) (192 * (m + x))
  have a5 := c_lmul 4 m
  have a6 := c_lmul 192 x
  have a7 := c_ladd (4 * m) (192 * x)
  have a8 := c_ladd (4 * m + 192 * x) (4 * n)
  have a9 := c_lmul 188 m
  have a10 := c_ladd (4 * m + 192 * x + 4 * n) (188 * m)
  have r1 := rng64 (4 * n + 192 * (m + x))
  have r2 := rng64 (4 * m + 192 * x + 4 * n + 188 * m)
  rw [l4] at a1 a5
  rw [l192] at a3 a6
  rw [l188] at a9
  omega
theorem own_n0 {y : Int64} (h1 : 0 ≤ y.toInt ∧ y.toInt < 72057594037927936) (q : Int32) : 0 ≤ ((y.toUInt64 >>> (q &&& 0x3f).toInt64.toUInt64).toInt64).toInt ∧ ((y.toUInt64 >>> (q &&& 0x3f).toInt64.toUInt64).toInt64).toInt < 4611686018427387904 := by
  obtain ⟨k, hk⟩ : ∃ k, q.toBitVec.toNat % 64 = k := ⟨_, rfl⟩
  by_cases z : k = 0
  · subst z
    have s2 : (q &&& 0x3f).toInt64 = 0 := Int64.toBitVec_inj.mp (sm64 _ _ hk).1
    have s3 : (y.toUInt64 >>> (q &&& 0x3f).toInt64.toUInt64).toInt64 = y := by rw [s2]; show (y.toUInt64 >>> (0 : UInt64)).toInt64 = y; rw [UInt64.shiftRight_zero]; rfl
    rw [s3]; omega
  · have s := c_lushr y q k hk (by omega)
    have s3 : y.toInt % 18446744073709551616 = y.toInt := by omega
    rw [s, s3]
    constructor
    · exact Int.ediv_nonneg h1.1 (Int.natCast_nonneg _)
    · exact Int.lt_of_le_of_lt (Int.ediv_le_self _ h1.1) (by omega)
theorem own_n (q1 : Int64) (p2 : Int32) : 0 ≤ (((q1 &&& (72057594037927935 : Int64)).toUInt64 >>> ((p2 &&& (63 : Int32)) &&& 0x3f).toInt64.toUInt64).toInt64).toInt ∧ (((q1 &&& (72057594037927935 : Int64)).toUInt64 >>> ((p2 &&& (63 : Int32)) &&& 0x3f).toInt64.toUInt64).toInt64).toInt < 4611686018427387904 := by
  have h0 := c_maskL q1 72057594037927935 56 (by decide) (by decide)
  exact own_n0 (by rw [h0]; omega) _
theorem own_small {n : Int64} (h0 : 0 ≤ n.toInt) (h : ¬ (1 : Int64) < n) : own_bytes n = (196 : Int64) * n := by
  rw [own_lt64, own_l1] at h
  have : n.toInt = 0 ∨ n.toInt = 1 := by omega
  rcases this with q | q
  · have e : n = 0 := Int64.toInt_inj.mp q
    subst e; decide
  · have e : n = 1 := Int64.toInt_inj.mp q
    subst e; decide
theorem d1_0 : decode prog_16_method_3_code 0 = .ok (.lload_n 0, 1) := by decide +kernel
theorem d1_1 : decode prog_16_method_3_code 1 = .ok (.lconst 0, 1) := by decide +kernel
theorem d1_2 : decode prog_16_method_3_code 2 = .ok (.lcmp, 1) := by decide +kernel
theorem d1_3 : decode prog_16_method_3_code 3 = .ok (.ifCond .le 7, 3) := by decide +kernel
theorem d1_6 : decode prog_16_method_3_code 6 = .ok (.lconst 1, 1) := by decide +kernel
theorem d1_7 : decode prog_16_method_3_code 7 = .ok (.goto 4, 3) := by decide +kernel
theorem d1_10 : decode prog_16_method_3_code 10 = .ok (.lconst 0, 1) := by decide +kernel
theorem d1_11 : decode prog_16_method_3_code 11 = .ok (.lstore_n 2, 1) := by decide +kernel
theorem d1_12 : decode prog_16_method_3_code 12 = .ok (.lload_n 0, 1) := by decide +kernel
theorem d1_13 : decode prog_16_method_3_code 13 = .ok (.lstore 4, 2) := by decide +kernel
theorem d1_15 : decode prog_16_method_3_code 15 = .ok (.lload 4, 2) := by decide +kernel
theorem d1_17 : decode prog_16_method_3_code 17 = .ok (.lconst 1, 1) := by decide +kernel
theorem d1_18 : decode prog_16_method_3_code 18 = .ok (.lcmp, 1) := by decide +kernel
theorem d1_19 : decode prog_16_method_3_code 19 = .ok (.ifCond .le 35, 3) := by decide +kernel
theorem d1_22 : decode prog_16_method_3_code 22 = .ok (.lload_n 2, 1) := by decide +kernel
theorem d1_23 : decode prog_16_method_3_code 23 = .ok (.lload 4, 2) := by decide +kernel
theorem d1_25 : decode prog_16_method_3_code 25 = .ok (.ldc2_w 103, 3) := by decide +kernel
theorem d1_28 : decode prog_16_method_3_code 28 = .ok (.ladd, 1) := by decide +kernel
theorem d1_29 : decode prog_16_method_3_code 29 = .ok (.lconst 1, 1) := by decide +kernel
theorem d1_30 : decode prog_16_method_3_code 30 = .ok (.lsub, 1) := by decide +kernel
theorem d1_31 : decode prog_16_method_3_code 31 = .ok (.ldc2_w 103, 3) := by decide +kernel
theorem d1_34 : decode prog_16_method_3_code 34 = .ok (.ldiv, 1) := by decide +kernel
theorem d1_35 : decode prog_16_method_3_code 35 = .ok (.ladd, 1) := by decide +kernel
theorem d1_36 : decode prog_16_method_3_code 36 = .ok (.lstore_n 2, 1) := by decide +kernel
theorem d1_37 : decode prog_16_method_3_code 37 = .ok (.lload 4, 2) := by decide +kernel
theorem d1_39 : decode prog_16_method_3_code 39 = .ok (.ldc2_w 103, 3) := by decide +kernel
theorem d1_42 : decode prog_16_method_3_code 42 = .ok (.ladd, 1) := by decide +kernel
theorem d1_43 : decode prog_16_method_3_code 43 = .ok (.lconst 1, 1) := by decide +kernel
theorem d1_44 : decode prog_16_method_3_code 44 = .ok (.lsub, 1) := by decide +kernel
theorem d1_45 : decode prog_16_method_3_code 45 = .ok (.ldc2_w 103, 3) := by decide +kernel
theorem d1_48 : decode prog_16_method_3_code 48 = .ok (.ldiv, 1) := by decide +kernel
theorem d1_49 : decode prog_16_method_3_code 49 = .ok (.lstore 4, 2) := by decide +kernel
theorem d1_51 : decode prog_16_method_3_code 51 = .ok (.goto (-36), 3) := by decide +kernel
theorem d1_54 : decode prog_16_method_3_code 54 = .ok (.ldc2_w 139, 3) := by decide +kernel
theorem d1_57 : decode prog_16_method_3_code 57 = .ok (.lload_n 0, 1) := by decide +kernel
theorem d1_58 : decode prog_16_method_3_code 58 = .ok (.lmul, 1) := by decide +kernel
theorem d1_59 : decode prog_16_method_3_code 59 = .ok (.ldc2_w 141, 3) := by decide +kernel
theorem d1_62 : decode prog_16_method_3_code 62 = .ok (.lload_n 2, 1) := by decide +kernel
theorem d1_63 : decode prog_16_method_3_code 63 = .ok (.lmul, 1) := by decide +kernel
theorem d1_64 : decode prog_16_method_3_code 64 = .ok (.ladd, 1) := by decide +kernel
theorem d1_65 : decode prog_16_method_3_code 65 = .ok (.lreturn, 1) := by decide +kernel
theorem pn_0 : plainName "com/example/wakeline/wakeline/index/ExtentTree" = true := by first | (simp [plainName, overriddenIn]; done) | decide +kernel
theorem ef_rm1 (m : MethodId) (x0 : Int64) : entryFrame m #[(.long x0)] 6 = mkF m 0 #[.val (.long x0), .second, .unset, .unset, .unset, .unset] [] := by first | (simp [entryFrame, mkF, argsToLocals, Value.category]; done) | rfl
def Qrm1 (Z : State) (q1 : Int64) (h0 : Heap) (n0 : Nat) (v : Option Value) (h : Heap) (L : List Loc) : Prop := v = some (.long (own_bytes q1)) ∧ Fr n0 L ∧ h = h0
set_option maxRecDepth 65536 in
set_option maxHeartbeats 40000000 in
theorem rm1 (l : Launch) (Z : State) (a0 : Array Value) (hw : ∀ d ∈ tables_1, d.before a0 Z = true) (ws : List Jvm.Cond) (q1 : Int64) (h0 : Heap) (n0 : Nat) (Z0 : n0 ≤ h0.size) (b0 : 0 ≤ q1.toInt) (b1 : q1.toInt < 4611686018427387904) :
    MetFree l (⟨"com/example/wakeline/wakeline/index/ExtentTree", "bytes", "(J)J"⟩ : MethodName) (head1 (Jvm.Cond.code (⟨"com/example/wakeline/wakeline/index/ExtentTree", "bytes", "(J)J"⟩ : MethodName) prog_16_method_3_code 6 (some .long) :: ws) ({ frames := 0, cells := 0, slots := 0, locals := 0 } : Room)) (fun a U => a = #[(.long q1)] ∧ Z.Warmed39 U.vm ∧ U.heap = h0) (fun _ _ _ _ _ => True) (fun _ U o U' => ∃ v L, o = .returned v ∧ Qrm1 Z q1 h0 n0 v U'.heap L ∧ FrameEnd U o U' L ({ frames := 0, cells := 0, slots := 0, locals := 0 } : Room).cells ({ frames := 0, cells := 0, slots := 0, locals := 0 } : Room).slots) := by
  refine MetFree.of_bodySF (plainFor_of_name pn_0) hisR ?_
  intro p e s m args below meth c s₁ Bd hml0 hP hK
  obtain ⟨rfl, hZ, hh⟩ := hP
  have hx := Bd.exec
  have hby := Bd.bytes
  have hml : c.maxLocals = 6 := hml0
  have hown : s.vm.findClass "com/example/wakeline/wakeline/index/ExtentTree" = some m.cls := findClass_of_methodNamed Bd.named
  have hnm := (name_of_methodNamed Bd.named Bd.method).1
  have X0 : Stand p l e ({ frames := 0, cells := 0, slots := 0, locals := 0 } : Room) s m #[(.long q1)] below meth c s₁ [] 0 0 := Stand.of_body Bd
  have e0 : s₁.heap = h0 := by rw [← hh, Bd.state]; rfl
  have N0 := Fr.nil n0
  have pre0 : ∀ t_, Steps p.tables e below (s₁.setTop (mkF m 0 #[.val (.long q1), .second, .unset, .unset, .unset, .unset] [])) t_ → Steps p.tables e below (s₁.setTop (entryFrame m #[(.long q1)] 6)) t_ := fun t_ k_ => castTop (ef_rm1 m q1) k_
  have loop : ∀ (k : Nat) (tt cc : Int64), 0 ≤ cc.toInt → cc.toInt < 4611686018427387904 → cc.toInt ≤ k → ∃ c' : Int64, ∀ t_, Steps p.tables e below (s₁.setTop (mkF m 54 #[.val (.long q1), .second, .val (.long (own_loop k tt cc)), .second, .val (.long c'), .second] [])) t_ → Steps p.tables e below (s₁.setTop (mkF m 15 #[.val (.long q1), .second, .val (.long tt), .second, .val (.long cc), .second] [])) t_ := by
    intro k
    induction k with
    | zero =>
      intro tt cc z0 z1 z2
      have pre101 : ∀ t_, Steps p.tables e below (s₁.setTop (mkF m 15 #[.val (.long q1), .second, .val (.long tt), .second, .val (.long cc), .second] [])) t_ → Steps p.tables e below (s₁.setTop (mkF m 15 #[.val (.long q1), .second, .val (.long tt), .second, .val (.long cc), .second] [])) t_ := fun _ k_ => k_
      have pre102 : ∀ t_, Steps p.tables e below (s₁.setTop (mkF m 54 #[.val (.long q1), .second, .val (.long tt), .second, .val (.long cc), .second] [])) t_ → Steps p.tables e below (s₁.setTop (mkF m 15 #[.val (.long q1), .second, .val (.long tt), .second, .val (.long cc), .second] [])) t_ := fun t_ k_ => pre101 _ (by
        show Steps p.tables e below (s₁.setTop (mkF m 15 #[.val (.long q1), .second, .val (.long tt), .second, .val (.long cc), .second] [])) _
        refine XS.lload X0.here hx rfl (hb hby d1_15) rfl ?_
        show Steps p.tables e below (s₁.setTop (mkF m 17 #[.val (.long q1), .second, .val (.long tt), .second, .val (.long cc), .second] [(.long cc)])) _
        refine XS.lconst X0.here hx rfl (hb hby d1_17) ?_
        show Steps p.tables e below (s₁.setTop (mkF m 18 #[.val (.long q1), .second, .val (.long tt), .second, .val (.long cc), .second] [(.long (1 : Int64)), (.long cc)])) _
        refine XS.lcmp X0.here hx rfl (hb hby d1_18) rfl ?_
        show Steps p.tables e below (s₁.setTop (mkF m 19 #[.val (.long q1), .second, .val (.long tt), .second, .val (.long cc), .second] [(.int (lcmpW cc (1 : Int64)))])) _
        refine XS.ifYes X0.here hx rfl (pc0 := 19) (pc' := 54) rfl (hb hby d1_19) rfl ((if0 _ _).trans (flt (mt (lw_gt _ _).mp (by rw [own_lt64, own_l1]; omega : ¬ (1 : Int64) < cc))).2.2.2) (by decide) (by decide) ?_
        exact k_)
      exact ⟨cc, pre102⟩
    | succ k ih =>
      intro tt cc z0 z1 z2
      have pre103 : ∀ t_, Steps p.tables e below (s₁.setTop (mkF m 15 #[.val (.long q1), .second, .val (.long tt), .second, .val (.long cc), .second] [])) t_ → Steps p.tables e below (s₁.setTop (mkF m 15 #[.val (.long q1), .second, .val (.long tt), .second, .val (.long cc), .second] [])) t_ := fun _ k_ => k_
      have pre104 : ∀ t_, Steps p.tables e below (s₁.setTop (mkF m 19 #[.val (.long q1), .second, .val (.long tt), .second, .val (.long cc), .second] [(.int (lcmpW cc (1 : Int64)))])) t_ → Steps p.tables e below (s₁.setTop (mkF m 15 #[.val (.long q1), .second, .val (.long tt), .second, .val (.long cc), .second] [])) t_ := fun t_ k_ => pre103 _ (by
        show Steps p.tables e below (s₁.setTop (mkF m 15 #[.val (.long q1), .second, .val (.long tt), .second, .val (.long cc), .second] [])) _
        refine XS.lload X0.here hx rfl (hb hby d1_15) rfl ?_
        show Steps p.tables e below (s₁.setTop (mkF m 17 #[.val (.long q1), .second, .val (.long tt), .second, .val (.long cc), .second] [(.long cc)])) _
        refine XS.lconst X0.here hx rfl (hb hby d1_17) ?_
        show Steps p.tables e below (s₁.setTop (mkF m 18 #[.val (.long q1), .second, .val (.long tt), .second, .val (.long cc), .second] [(.long (1 : Int64)), (.long cc)])) _
        refine XS.lcmp X0.here hx rfl (hb hby d1_18) rfl ?_
        exact k_)
      by_cases hc : (1 : Int64) < cc
      · skip
        have en := own_next_v z0 z1
        have q := hc
        rw [own_lt64, own_l1] at q
        obtain ⟨c', st⟩ := ih (tt + own_next cc) (own_next cc) (by rw [en]; omega) (by rw [en]; omega) (by rw [en]; omega)
        have pre105 : ∀ t_, Steps p.tables e below (s₁.setTop (mkF m 15 #[.val (.long q1), .second, .val (.long (tt + (((cc + (16 : Int64)) - (1 : Int64)) / (16 : Int64)))), .second, .val (.long (((cc + (16 : Int64)) - (1 : Int64)) / (16 : Int64))), .second] [])) t_ → Steps p.tables e below (s₁.setTop (mkF m 15 #[.val (.long q1), .second, .val (.long tt), .second, .val (.long cc), .second] [])) t_ := fun t_ k_ => pre104 _ (by
          show Steps p.tables e below (s₁.setTop (mkF m 19 #[.val (.long q1), .second, .val (.long tt), .second, .val (.long cc), .second] [(.int (lcmpW cc (1 : Int64)))])) _
          refine XS.ifNo X0.here hx rfl (hb hby d1_19) rfl ((if0 _ _).trans (tlt ((lw_gt _ _).mpr hc)).2.2.2) ?_
          show Steps p.tables e below (s₁.setTop (mkF m 22 #[.val (.long q1), .second, .val (.long tt), .second, .val (.long cc), .second] [])) _
          refine XS.lloadN X0.here hx rfl (hb hby d1_22) rfl ?_
          show Steps p.tables e below (s₁.setTop (mkF m 23 #[.val (.long q1), .second, .val (.long tt), .second, .val (.long cc), .second] [(.long tt)])) _
          refine XS.lload X0.here hx rfl (hb hby d1_23) rfl ?_
          show Steps p.tables e below (s₁.setTop (mkF m 25 #[.val (.long q1), .second, .val (.long tt), .second, .val (.long cc), .second] [(.long cc), (.long tt)])) _
          refine X0.ldc2Long hx hown (mvT hZ (hw _ (List.mem_of_getElem? (i := 10) rfl))) (g := (mkF m 25 #[.val (.long q1), .second, .val (.long tt), .second, .val (.long cc), .second] [(.long cc), (.long tt)])) rfl (hb hby d1_25) _ ?_
          show Steps p.tables e below (s₁.setTop (mkF m 28 #[.val (.long q1), .second, .val (.long tt), .second, .val (.long cc), .second] [(.long (16 : Int64)), (.long cc), (.long tt)])) _
          refine XS.ladd X0.here hx rfl (hb hby d1_28) rfl ?_
          show Steps p.tables e below (s₁.setTop (mkF m 29 #[.val (.long q1), .second, .val (.long tt), .second, .val (.long cc), .second] [(.long (cc + (16 : Int64))), (.long tt)])) _
          refine XS.lconst X0.here hx rfl (hb hby d1_29) ?_
          show Steps p.tables e below (s₁.setTop (mkF m 30 #[.val (.long q1), .second, .val (.long tt), .second, .val (.long cc), .second] [(.long (1 : Int64)), (.long (cc + (16 : Int64))), (.long tt)])) _
          refine XS.lsub X0.here hx rfl (hb hby d1_30) rfl ?_
          show Steps p.tables e below (s₁.setTop (mkF m 31 #[.val (.long q1), .second, .val (.long tt), .second, .val (.long cc), .second] [(.long ((cc + (16 : Int64)) - (1 : Int64))), (.long tt)])) _
          refine X0.ldc2Long hx hown (mvT hZ (hw _ (List.mem_of_getElem? (i := 10) rfl))) (g := (mkF m 31 #[.val (.long q1), .second, .val (.long tt), .second, .val (.long cc), .second] [(.long ((cc + (16 : Int64)) - (1 : Int64))), (.long tt)])) rfl (hb hby d1_31) _ ?_
          show Steps p.tables e below (s₁.setTop (mkF m 34 #[.val (.long q1), .second, .val (.long tt), .second, .val (.long cc), .second] [(.long (16 : Int64)), (.long ((cc + (16 : Int64)) - (1 : Int64))), (.long tt)])) _
          refine XS.ldiv X0.here hx rfl (hb hby d1_34) rfl (by decide) ?_
          show Steps p.tables e below (s₁.setTop (mkF m 35 #[.val (.long q1), .second, .val (.long tt), .second, .val (.long cc), .second] [(.long (((cc + (16 : Int64)) - (1 : Int64)) / (16 : Int64))), (.long tt)])) _
          refine XS.ladd X0.here hx rfl (hb hby d1_35) rfl ?_
          show Steps p.tables e below (s₁.setTop (mkF m 36 #[.val (.long q1), .second, .val (.long tt), .second, .val (.long cc), .second] [(.long (tt + (((cc + (16 : Int64)) - (1 : Int64)) / (16 : Int64))))])) _
          refine XS.lstoreN X0.here hx rfl (hb hby d1_36) rfl (l' := #[.val (.long q1), .second, .val (.long (tt + (((cc + (16 : Int64)) - (1 : Int64)) / (16 : Int64)))), .second, .val (.long cc), .second]) rfl ?_
          show Steps p.tables e below (s₁.setTop (mkF m 37 #[.val (.long q1), .second, .val (.long (tt + (((cc + (16 : Int64)) - (1 : Int64)) / (16 : Int64)))), .second, .val (.long cc), .second] [])) _
          refine XS.lload X0.here hx rfl (hb hby d1_37) rfl ?_
          show Steps p.tables e below (s₁.setTop (mkF m 39 #[.val (.long q1), .second, .val (.long (tt + (((cc + (16 : Int64)) - (1 : Int64)) / (16 : Int64)))), .second, .val (.long cc), .second] [(.long cc)])) _
          refine X0.ldc2Long hx hown (mvT hZ (hw _ (List.mem_of_getElem? (i := 10) rfl))) (g := (mkF m 39 #[.val (.long q1), .second, .val (.long (tt + (((cc + (16 : Int64)) - (1 : Int64)) / (16 : Int64)))), .second, .val (.long cc), .second] [(.long cc)])) rfl (hb hby d1_39) _ ?_
          show Steps p.tables e below (s₁.setTop (mkF m 42 #[.val (.long q1), .second, .val (.long (tt + (((cc + (16 : Int64)) - (1 : Int64)) / (16 : Int64)))), .second, .val (.long cc), .second] [(.long (16 : Int64)), (.long cc)])) _
          refine XS.ladd X0.here hx rfl (hb hby d1_42) rfl ?_
          show Steps p.tables e below (s₁.setTop (mkF m 43 #[.val (.long q1), .second, .val (.long (tt + (((cc + (16 : Int64)) - (1 : Int64)) / (16 : Int64)))), .second, .val (.long cc), .second] [(.long (cc + (16 : Int64)))])) _
          refine XS.lconst X0.here hx rfl (hb hby d1_43) ?_
          show Steps p.tables e below (s₁.setTop (mkF m 44 #[.val (.long q1), .second, .val (.long (tt + (((cc + (16 : Int64)) - (1 : Int64)) / (16 : Int64)))), .second, .val (.long cc), .second] [(.long (1 : Int64)), (.long (cc + (16 : Int64)))])) _
          refine XS.lsub X0.here hx rfl (hb hby d1_44) rfl ?_
          show Steps p.tables e below (s₁.setTop (mkF m 45 #[.val (.long q1), .second, .val (.long (tt + (((cc + (16 : Int64)) - (1 : Int64)) / (16 : Int64)))), .second, .val (.long cc), .second] [(.long ((cc + (16 : Int64)) - (1 : Int64)))])) _
          refine X0.ldc2Long hx hown (mvT hZ (hw _ (List.mem_of_getElem? (i := 10) rfl))) (g := (mkF m 45 #[.val (.long q1), .second, .val (.long (tt + (((cc + (16 : Int64)) - (1 : Int64)) / (16 : Int64)))), .second, .val (.long cc), .second] [(.long ((cc + (16 : Int64)) - (1 : Int64)))])) rfl (hb hby d1_45) _ ?_
          show Steps p.tables e below (s₁.setTop (mkF m 48 #[.val (.long q1), .second, .val (.long (tt + (((cc + (16 : Int64)) - (1 : Int64)) / (16 : Int64)))), .second, .val (.long cc), .second] [(.long (16 : Int64)), (.long ((cc + (16 : Int64)) - (1 : Int64)))])) _
          refine XS.ldiv X0.here hx rfl (hb hby d1_48) rfl (by decide) ?_
          show Steps p.tables e below (s₁.setTop (mkF m 49 #[.val (.long q1), .second, .val (.long (tt + (((cc + (16 : Int64)) - (1 : Int64)) / (16 : Int64)))), .second, .val (.long cc), .second] [(.long (((cc + (16 : Int64)) - (1 : Int64)) / (16 : Int64)))])) _
          refine XS.lstore X0.here hx rfl (hb hby d1_49) rfl (l' := #[.val (.long q1), .second, .val (.long (tt + (((cc + (16 : Int64)) - (1 : Int64)) / (16 : Int64)))), .second, .val (.long (((cc + (16 : Int64)) - (1 : Int64)) / (16 : Int64))), .second]) rfl ?_
          show Steps p.tables e below (s₁.setTop (mkF m 51 #[.val (.long q1), .second, .val (.long (tt + (((cc + (16 : Int64)) - (1 : Int64)) / (16 : Int64)))), .second, .val (.long (((cc + (16 : Int64)) - (1 : Int64)) / (16 : Int64))), .second] [])) _
          refine XS.goto X0.here hx rfl (pc0 := 51) (pc' := 15) rfl (hb hby d1_51) (by decide) (by decide) ?_
          exact k_)
        refine ⟨c', fun t_ k_ => pre105 _ (st t_ ?_)⟩
        rw [own_loop_s, if_pos hc] at k_
        exact k_
      · skip
        have pre106 : ∀ t_, Steps p.tables e below (s₁.setTop (mkF m 54 #[.val (.long q1), .second, .val (.long tt), .second, .val (.long cc), .second] [])) t_ → Steps p.tables e below (s₁.setTop (mkF m 15 #[.val (.long q1), .second, .val (.long tt), .second, .val (.long cc), .second] [])) t_ := fun t_ k_ => pre104 _ (by
          show Steps p.tables e below (s₁.setTop (mkF m 19 #[.val (.long q1), .second, .val (.long tt), .second, .val (.long cc), .second] [(.int (lcmpW cc (1 : Int64)))])) _
          refine XS.ifYes X0.here hx rfl (pc0 := 19) (pc' := 54) rfl (hb hby d1_19) rfl ((if0 _ _).trans (flt (mt (lw_gt _ _).mp hc)).2.2.2) (by decide) (by decide) ?_
          exact k_)
        refine ⟨cc, fun t_ k_ => pre106 _ ?_⟩
        rw [own_loop_s, if_neg hc] at k_
        exact k_
  have pre107 : ∀ t_, Steps p.tables e below (s₁.setTop (mkF m 3 #[.val (.long q1), .second, .unset, .unset, .unset, .unset] [(.int (lcmpW q1 (0 : Int64)))])) t_ → Steps p.tables e below (s₁.setTop (entryFrame m #[(.long q1)] 6)) t_ := fun t_ k_ => pre0 _ (by
    show Steps p.tables e below (s₁.setTop (mkF m 0 #[.val (.long q1), .second, .unset, .unset, .unset, .unset] [])) _
    refine XS.lloadN X0.here hx rfl (hb hby d1_0) rfl ?_
    show Steps p.tables e below (s₁.setTop (mkF m 1 #[.val (.long q1), .second, .unset, .unset, .unset, .unset] [(.long q1)])) _
    refine XS.lconst X0.here hx rfl (hb hby d1_1) ?_
    show Steps p.tables e below (s₁.setTop (mkF m 2 #[.val (.long q1), .second, .unset, .unset, .unset, .unset] [(.long (0 : Int64)), (.long q1)])) _
    refine XS.lcmp X0.here hx rfl (hb hby d1_2) rfl ?_
    exact k_)
  refine own_j1 (A := fun G => ∀ (ss : Int64) (hss : ss = if (0 : Int64) < q1 then 1 else 0) (preJ : ∀ t_, Steps p.tables e below (s₁.setTop (mkF m 11 #[.val (.long q1), .second, .unset, .unset, .unset, .unset] [(.long ss)])) t_ → Steps p.tables e below (s₁.setTop (entryFrame m #[(.long q1)] 6)) t_), G) ?_ (fun J => ?_)
  · skip
    intro ss hss preJ
    obtain ⟨c', st⟩ := loop q1.toInt.toNat ss q1 b0 b1 (by omega)
    have pre108 : ∀ t_, Steps p.tables e below (s₁.setTop (mkF m 65 #[.val (.long q1), .second, .val (.long (own_loop q1.toInt.toNat ss q1)), .second, .val (.long c'), .second] [(.long (((4 : Int64) * q1) + ((192 : Int64) * (own_loop q1.toInt.toNat ss q1))))])) t_ → Steps p.tables e below (s₁.setTop (entryFrame m #[(.long q1)] 6)) t_ := fun t_ k_ => preJ _ (by
      show Steps p.tables e below (s₁.setTop (mkF m 11 #[.val (.long q1), .second, .unset, .unset, .unset, .unset] [(.long ss)])) _
      refine XS.lstoreN X0.here hx rfl (hb hby d1_11) rfl (l' := #[.val (.long q1), .second, .val (.long ss), .second, .unset, .unset]) rfl ?_
      show Steps p.tables e below (s₁.setTop (mkF m 12 #[.val (.long q1), .second, .val (.long ss), .second, .unset, .unset] [])) _
      refine XS.lloadN X0.here hx rfl (hb hby d1_12) rfl ?_
      show Steps p.tables e below (s₁.setTop (mkF m 13 #[.val (.long q1), .second, .val (.long ss), .second, .unset, .unset] [(.long q1)])) _
      refine XS.lstore X0.here hx rfl (hb hby d1_13) rfl (l' := #[.val (.long q1), .second, .val (.long ss), .second, .val (.long q1), .second]) rfl ?_
      show Steps p.tables e below (s₁.setTop (mkF m 15 #[.val (.long q1), .second, .val (.long ss), .second, .val (.long q1), .second] [])) _
      refine st _ ?_
      show Steps p.tables e below (s₁.setTop (mkF m 54 #[.val (.long q1), .second, .val (.long (own_loop q1.toInt.toNat ss q1)), .second, .val (.long c'), .second] [])) _
      refine X0.ldc2Long hx hown (mvT hZ (hw _ (List.mem_of_getElem? (i := 5) rfl))) (g := (mkF m 54 #[.val (.long q1), .second, .val (.long (own_loop q1.toInt.toNat ss q1)), .second, .val (.long c'), .second] [])) rfl (hb hby d1_54) _ ?_
      show Steps p.tables e below (s₁.setTop (mkF m 57 #[.val (.long q1), .second, .val (.long (own_loop q1.toInt.toNat ss q1)), .second, .val (.long c'), .second] [(.long (4 : Int64))])) _
      refine XS.lloadN X0.here hx rfl (hb hby d1_57) rfl ?_
      show Steps p.tables e below (s₁.setTop (mkF m 58 #[.val (.long q1), .second, .val (.long (own_loop q1.toInt.toNat ss q1)), .second, .val (.long c'), .second] [(.long q1), (.long (4 : Int64))])) _
      refine XS.lmul X0.here hx rfl (hb hby d1_58) rfl ?_
      show Steps p.tables e below (s₁.setTop (mkF m 59 #[.val (.long q1), .second, .val (.long (own_loop q1.toInt.toNat ss q1)), .second, .val (.long c'), .second] [(.long ((4 : Int64) * q1))])) _
      refine X0.ldc2Long hx hown (mvT hZ (hw _ (List.mem_of_getElem? (i := 6) rfl))) (g := (mkF m 59 #[.val (.long q1), .second, .val (.long (own_loop q1.toInt.toNat ss q1)), .second, .val (.long c'), .second] [(.long ((4 : Int64) * q1))])) rfl (hb hby d1_59) _ ?_
      show Steps p.tables e below (s₁.setTop (mkF m 62 #[.val (.long q1), .second, .val (.long (own_loop q1.toInt.toNat ss q1)), .second, .val (.long c'), .second] [(.long (192 : Int64)), (.long ((4 : Int64) * q1))])) _
      refine XS.lloadN X0.here hx rfl (hb hby d1_62) rfl ?_
      show Steps p.tables e below (s₁.setTop (mkF m 63 #[.val (.long q1), .second, .val (.long (own_loop q1.toInt.toNat ss q1)), .second, .val (.long c'), .second] [(.long (own_loop q1.toInt.toNat ss q1)), (.long (192 : Int64)), (.long ((4 : Int64) * q1))])) _
      refine XS.lmul X0.here hx rfl (hb hby d1_63) rfl ?_
      show Steps p.tables e below (s₁.setTop (mkF m 64 #[.val (.long q1), .second, .val (.long (own_loop q1.toInt.toNat ss q1)), .second, .val (.long c'), .second] [(.long ((192 : Int64) * (own_loop q1.toInt.toNat ss q1))), (.long ((4 : Int64) * q1))])) _
      refine XS.ladd X0.here hx rfl (hb hby d1_64) rfl ?_
      exact k_)
    obtain ⟨fs, hr, hrun, hended, hW, hsame⟩ := X0.leave (v := some (.long (((4 : Int64) * q1) + ((192 : Int64) * (own_loop q1.toInt.toNat ss q1))))) (fun h => by rw [Bd.returns] at h; cases h)
    refine ⟨_, _, pre108 _ ?_, hrun, hended, _, _, rfl, ?_, ⟨_, rfl⟩, hW, hsame.mono (by decide) (by decide)⟩
    · show Steps p.tables e below (s₁.setTop (mkF m 65 #[.val (.long q1), .second, .val (.long (own_loop q1.toInt.toNat ss q1)), .second, .val (.long c'), .second] [(.long (((4 : Int64) * q1) + ((192 : Int64) * (own_loop q1.toInt.toNat ss q1))))])) _
      exact retJ X0 hx Bd.returns (hb hby d1_65) hr
    · show Qrm1 Z q1 h0 n0 _ s₁.heap _
      rw [e0]
      exact ⟨by rw [own_bytes, hss], N0, rfl⟩
  · skip
    by_cases hc : (0 : Int64) < q1
    · skip
      have pre109 : ∀ t_, Steps p.tables e below (s₁.setTop (mkF m 11 #[.val (.long q1), .second, .unset, .unset, .unset, .unset] [(.long (1 : Int64))])) t_ → Steps p.tables e below (s₁.setTop (entryFrame m #[(.long q1)] 6)) t_ := fun t_ k_ => pre107 _ (by
        show Steps p.tables e below (s₁.setTop (mkF m 3 #[.val (.long q1), .second, .unset, .unset, .unset, .unset] [(.int (lcmpW q1 (0 : Int64)))])) _
        refine XS.ifNo X0.here hx rfl (hb hby d1_3) rfl ((if0 _ _).trans (tlt ((lw_gt _ _).mpr hc)).2.2.2) ?_
        show Steps p.tables e below (s₁.setTop (mkF m 6 #[.val (.long q1), .second, .unset, .unset, .unset, .unset] [])) _
        refine XS.lconst X0.here hx rfl (hb hby d1_6) ?_
        show Steps p.tables e below (s₁.setTop (mkF m 7 #[.val (.long q1), .second, .unset, .unset, .unset, .unset] [(.long (1 : Int64))])) _
        refine XS.goto X0.here hx rfl (pc0 := 7) (pc' := 11) rfl (hb hby d1_7) (by decide) (by decide) ?_
        exact k_)
      exact J _ (by rw [if_pos hc]) pre109
    · skip
      have pre110 : ∀ t_, Steps p.tables e below (s₁.setTop (mkF m 11 #[.val (.long q1), .second, .unset, .unset, .unset, .unset] [(.long (0 : Int64))])) t_ → Steps p.tables e below (s₁.setTop (entryFrame m #[(.long q1)] 6)) t_ := fun t_ k_ => pre107 _ (by
        show Steps p.tables e below (s₁.setTop (mkF m 3 #[.val (.long q1), .second, .unset, .unset, .unset, .unset] [(.int (lcmpW q1 (0 : Int64)))])) _
        refine XS.ifYes X0.here hx rfl (pc0 := 3) (pc' := 10) rfl (hb hby d1_3) rfl ((if0 _ _).trans (flt (mt (lw_gt _ _).mp hc)).2.2.2) (by decide) (by decide) ?_
        show Steps p.tables e below (s₁.setTop (mkF m 10 #[.val (.long q1), .second, .unset, .unset, .unset, .unset] [])) _
        refine XS.lconst X0.here hx rfl (hb hby d1_10) ?_
        exact k_)
      exact J _ (by rw [if_neg hc]) pre110
theorem pd_0 : parseMethodDescriptor "(J)J" = some ⟨[.long], some .long⟩ := by decide +kernel
theorem pn_1 : plainName "com/example/wakeline/wakeline/index/ExtentTreeBytesPinLaw" = true := by first | (simp [plainName, overriddenIn]; done) | decide +kernel
theorem ef_rm0 (m : MethodId) (x0 : Int64) (x1 : Int32) : entryFrame m #[(.long x0), (.int x1)] maxLocals = mkF m 0 #[.val (.long x0), .second, .val (.int x1), .unset, .unset, .unset, .unset] [] := by first | (simp [entryFrame, mkF, argsToLocals, Value.category, maxLocals]; done) | rfl
def Qrm0 (Z : State) (q1 : Int64) (p2 : Int32) (h0 : Heap) (n0 : Nat) (v : Option Value) (h : Heap) (L : List Loc) : Prop := v = some (.int 1) ∧ Fr n0 L
set_option maxRecDepth 65536 in
set_option maxHeartbeats 40000000 in
theorem rm0 (l : Launch) (Z : State) (a0 : Array Value) (hw : ∀ d ∈ tables_1, d.before a0 Z = true) (ws : List Jvm.Cond) (q1 : Int64) (p2 : Int32) (h0 : Heap) (n0 : Nat) (Z0 : n0 ≤ h0.size) :
    MetFree l x (head1 (Jvm.Cond.code x code maxLocals ret :: ws) room_1) (fun a U => a = #[(.long q1), (.int p2)] ∧ Z.Warmed39 U.vm ∧ U.heap = h0) (fun _ _ _ _ _ => True) (fun _ U o U' => ∃ v L, o = .returned v ∧ Qrm0 Z q1 p2 h0 n0 v U'.heap L ∧ FrameEnd U o U' L room_1.cells room_1.slots) := by
  refine MetFree.of_bodySF (plainFor_of_name pn_1) hisR ?_
  intro p e s m args below meth c s₁ Bd hml0 hP hK
  obtain ⟨rfl, hZ, hh⟩ := hP
  have hx := Bd.exec
  have hby := Bd.bytes
  have hml : c.maxLocals = 7 := hml0
  have hown : s.vm.findClass "com/example/wakeline/wakeline/index/ExtentTreeBytesPinLaw" = some m.cls := findClass_of_methodNamed Bd.named
  have hnm := (name_of_methodNamed Bd.named Bd.method).1
  have X0 : Stand p l e room_1 s m #[(.long q1), (.int p2)] below meth c s₁ [] 0 0 := Stand.of_body Bd
  have e0 : s₁.heap = h0 := by rw [← hh, Bd.state]; rfl
  have N0 := Fr.nil n0
  have pre0 : ∀ t_, Steps p.tables e below (s₁.setTop (mkF m 0 #[.val (.long q1), .second, .val (.int p2), .unset, .unset, .unset, .unset] [])) t_ → Steps p.tables e below (s₁.setTop (entryFrame m #[(.long q1), (.int p2)] maxLocals)) t_ := fun t_ k_ => castTop (ef_rm0 m q1 p2) k_
  obtain ⟨n, hv_n, pre101⟩ : ∃ z_ : Int64, z_ = (((q1 &&& (72057594037927935 : Int64)).toUInt64 >>> ((p2 &&& (63 : Int32)) &&& 0x3f).toInt64.toUInt64).toInt64) ∧ ∀ t_, Steps p.tables e below (s₁.setTop (mkF m 11 #[.val (.long q1), .second, .val (.int p2), .val (.long z_), .second, .unset, .unset] [])) t_ → Steps p.tables e below (s₁.setTop (entryFrame m #[(.long q1), (.int p2)] maxLocals)) t_ := ⟨_, rfl, fun t_ k_ => pre0 _ (by
    show Steps p.tables e below (s₁.setTop (mkF m 0 #[.val (.long q1), .second, .val (.int p2), .unset, .unset, .unset, .unset] [])) _
    refine XS.lloadN X0.here hx rfl (hb hby at_0) rfl ?_
    show Steps p.tables e below (s₁.setTop (mkF m 1 #[.val (.long q1), .second, .val (.int p2), .unset, .unset, .unset, .unset] [(.long q1)])) _
    refine X0.ldc2Long hx hown (mvT hZ (hw _ (List.mem_of_getElem? (i := 0) rfl))) (g := (mkF m 1 #[.val (.long q1), .second, .val (.int p2), .unset, .unset, .unset, .unset] [(.long q1)])) rfl (hb hby at_1) _ ?_
    show Steps p.tables e below (s₁.setTop (mkF m 4 #[.val (.long q1), .second, .val (.int p2), .unset, .unset, .unset, .unset] [(.long (72057594037927935 : Int64)), (.long q1)])) _
    refine XS.land X0.here hx rfl (hb hby at_4) rfl ?_
    show Steps p.tables e below (s₁.setTop (mkF m 5 #[.val (.long q1), .second, .val (.int p2), .unset, .unset, .unset, .unset] [(.long (q1 &&& (72057594037927935 : Int64)))])) _
    refine XS.iloadN X0.here hx rfl (hb hby at_5) rfl ?_
    show Steps p.tables e below (s₁.setTop (mkF m 6 #[.val (.long q1), .second, .val (.int p2), .unset, .unset, .unset, .unset] [(.int p2), (.long (q1 &&& (72057594037927935 : Int64)))])) _
    refine XS.bipush X0.here hx rfl (hb hby at_6) ?_
    show Steps p.tables e below (s₁.setTop (mkF m 8 #[.val (.long q1), .second, .val (.int p2), .unset, .unset, .unset, .unset] [(.int (63 : Int32)), (.int p2), (.long (q1 &&& (72057594037927935 : Int64)))])) _
    refine XS.iand X0.here hx rfl (hb hby at_8) rfl ?_
    show Steps p.tables e below (s₁.setTop (mkF m 9 #[.val (.long q1), .second, .val (.int p2), .unset, .unset, .unset, .unset] [(.int (p2 &&& (63 : Int32))), (.long (q1 &&& (72057594037927935 : Int64)))])) _
    refine XS.lushr X0.here hx rfl (hb hby at_9) rfl ?_
    show Steps p.tables e below (s₁.setTop (mkF m 10 #[.val (.long q1), .second, .val (.int p2), .unset, .unset, .unset, .unset] [(.long (((q1 &&& (72057594037927935 : Int64)).toUInt64 >>> ((p2 &&& (63 : Int32)) &&& 0x3f).toInt64.toUInt64).toInt64))])) _
    refine XS.lstoreN X0.here hx rfl (hb hby at_10) rfl (l' := #[.val (.long q1), .second, .val (.int p2), .val (.long (((q1 &&& (72057594037927935 : Int64)).toUInt64 >>> ((p2 &&& (63 : Int32)) &&& 0x3f).toInt64.toUInt64).toInt64)), .second, .unset, .unset]) rfl ?_
    exact k_)⟩
  have bn : 0 ≤ n.toInt ∧ n.toInt < 4611686018427387904 := by rw [hv_n]; exact own_n q1 p2
  obtain ⟨_, _, ⟨T102, L102, k102, n102⟩, -, X102, ⟨Lc102, hQ102, l102, y102, z102⟩, st102⟩ := Jvm.LawKit.callS X0 hx (y := (⟨"com/example/wakeline/wakeline/index/ExtentTree", "bytes", "(J)J"⟩ : MethodName)) hown (mvT hZ (hw _ (List.mem_of_getElem? (i := 1) rfl))) (mvT hZ (hw _ (List.mem_of_getElem? (i := 2) rfl))) (mvT hZ (hw _ (List.mem_of_getElem? (i := 3) rfl))) (mvT hZ (hw _ (List.mem_of_getElem? (i := 4) rfl))) (by decide) (backOf (W := 0) (rm1 l Z a0 hw [] (0 : Int64) h0 n0 Z0 (by decide) (by decide)) hZ (hw _ (List.mem_of_getElem? (i := 4) rfl)) (hw _ (List.mem_of_getElem? (i := 3) rfl)) (by decide) (by decide)) (g := (mkF m 12 #[.val (.long q1), .second, .val (.int p2), .val (.long n), .second, .unset, .unset] [(.long (0 : Int64))])) rfl (by rw [hml]; rfl) (argsL := [(.long (0 : Int64))]) (rest := []) (lenOf pd_0 rfl) rfl (by show 2 * 0 + _ ≤ _; exact Nat.le_of_eq rfl) (hb hby at_12) (fun _ _ => ⟨rfl, e0, (by decide : 0 + 0 ≤ _), (by decide : 0 + 0 ≤ _)⟩)
  dsimp only [Pt.U, Pt.locs, Pt.cells, Pt.slots] at X102 l102 y102 z102 st102 hQ102
  subst l102 y102 z102
  obtain ⟨rfl, N102q, e102⟩ := hQ102
  have N102 := Fr.app N0 N102q
  obtain ⟨_, _, ⟨T103, L103, k103, n103⟩, -, X103, ⟨Lc103, hQ103, l103, y103, z103⟩, st103⟩ := Jvm.LawKit.callS X102 hx (y := (⟨"com/example/wakeline/wakeline/index/ExtentTree", "bytes", "(J)J"⟩ : MethodName)) hown (mvT hZ (hw _ (List.mem_of_getElem? (i := 1) rfl))) (mvT hZ (hw _ (List.mem_of_getElem? (i := 2) rfl))) (mvT hZ (hw _ (List.mem_of_getElem? (i := 3) rfl))) (mvT hZ (hw _ (List.mem_of_getElem? (i := 4) rfl))) (by decide) (backOf (W := 0) (rm1 l Z a0 hw [] (1 : Int64) h0 n0 Z0 (by decide) (by decide)) hZ (hw _ (List.mem_of_getElem? (i := 4) rfl)) (hw _ (List.mem_of_getElem? (i := 3) rfl)) (by decide) (by decide)) (g := (mkF m 23 #[.val (.long q1), .second, .val (.int p2), .val (.long n), .second, .unset, .unset] [(.long (1 : Int64))])) rfl (by rw [hml]; rfl) (argsL := [(.long (1 : Int64))]) (rest := []) (lenOf pd_0 rfl) rfl (by show 2 * 0 + _ ≤ _; exact Nat.le_of_eq rfl) (hb hby at_23) (fun _ _ => ⟨rfl, e102, (by decide : 0 + 0 ≤ _), (by decide : 0 + 0 ≤ _)⟩)
  dsimp only [Pt.U, Pt.locs, Pt.cells, Pt.slots] at X103 l103 y103 z103 st103 hQ103
  subst l103 y103 z103
  obtain ⟨rfl, N103q, e103⟩ := hQ103
  have N103 := Fr.app N102 N103q
  have pre104 : ∀ t_, Steps p.tables e below (T103.setTop (mkF m 38 #[.val (.long q1), .second, .val (.int p2), .val (.long n), .second, .unset, .unset] [(.int (lcmpW n (1 : Int64)))])) t_ → Steps p.tables e below (s₁.setTop (entryFrame m #[(.long q1), (.int p2)] maxLocals)) t_ := fun t_ k_ => pre101 _ (by
    show Steps p.tables e below (s₁.setTop (mkF m 11 #[.val (.long q1), .second, .val (.int p2), .val (.long n), .second, .unset, .unset] [])) _
    refine XS.lconst X0.here hx rfl (hb hby at_11) ?_
    show Steps p.tables e below (s₁.setTop (mkF m 12 #[.val (.long q1), .second, .val (.int p2), .val (.long n), .second, .unset, .unset] [(.long (0 : Int64))])) _
    refine st102 _ ?_
    show Steps p.tables e below (T102.setTop (mkF m 15 #[.val (.long q1), .second, .val (.int p2), .val (.long n), .second, .unset, .unset] [(.long (own_bytes (0 : Int64)))])) _
    refine XS.lconst X102.here hx rfl (hb hby at_15) ?_
    show Steps p.tables e below (T102.setTop (mkF m 16 #[.val (.long q1), .second, .val (.int p2), .val (.long n), .second, .unset, .unset] [(.long (0 : Int64)), (.long (own_bytes (0 : Int64)))])) _
    refine XS.lcmp X102.here hx rfl (hb hby at_16) rfl ?_
    show Steps p.tables e below (T102.setTop (mkF m 17 #[.val (.long q1), .second, .val (.int p2), .val (.long n), .second, .unset, .unset] [(.int (lcmpW (own_bytes (0 : Int64)) (0 : Int64)))])) _
    refine XS.ifYes X102.here hx rfl (pc0 := 17) (pc' := 22) rfl (hb hby at_17) rfl ((if0 _ _).trans (teq ((lw_eq _ _).mpr own_b0)).1) (by decide) (by decide) ?_
    show Steps p.tables e below (T102.setTop (mkF m 22 #[.val (.long q1), .second, .val (.int p2), .val (.long n), .second, .unset, .unset] [])) _
    refine XS.lconst X102.here hx rfl (hb hby at_22) ?_
    show Steps p.tables e below (T102.setTop (mkF m 23 #[.val (.long q1), .second, .val (.int p2), .val (.long n), .second, .unset, .unset] [(.long (1 : Int64))])) _
    refine st103 _ ?_
    show Steps p.tables e below (T103.setTop (mkF m 26 #[.val (.long q1), .second, .val (.int p2), .val (.long n), .second, .unset, .unset] [(.long (own_bytes (1 : Int64)))])) _
    refine X103.ldc2Long hx hown (mvT hZ (hw _ (List.mem_of_getElem? (i := 7) rfl))) (g := (mkF m 26 #[.val (.long q1), .second, .val (.int p2), .val (.long n), .second, .unset, .unset] [(.long (own_bytes (1 : Int64)))])) rfl (hb hby at_26) _ ?_
    show Steps p.tables e below (T103.setTop (mkF m 29 #[.val (.long q1), .second, .val (.int p2), .val (.long n), .second, .unset, .unset] [(.long (196 : Int64)), (.long (own_bytes (1 : Int64)))])) _
    refine XS.lcmp X103.here hx rfl (hb hby at_29) rfl ?_
    show Steps p.tables e below (T103.setTop (mkF m 30 #[.val (.long q1), .second, .val (.int p2), .val (.long n), .second, .unset, .unset] [(.int (lcmpW (own_bytes (1 : Int64)) (196 : Int64)))])) _
    refine XS.ifYes X103.here hx rfl (pc0 := 30) (pc' := 35) rfl (hb hby at_30) rfl ((if0 _ _).trans (teq ((lw_eq _ _).mpr own_b1)).1) (by decide) (by decide) ?_
    show Steps p.tables e below (T103.setTop (mkF m 35 #[.val (.long q1), .second, .val (.int p2), .val (.long n), .second, .unset, .unset] [])) _
    refine XS.lloadN X103.here hx rfl (hb hby at_35) rfl ?_
    show Steps p.tables e below (T103.setTop (mkF m 36 #[.val (.long q1), .second, .val (.int p2), .val (.long n), .second, .unset, .unset] [(.long n)])) _
    refine XS.lconst X103.here hx rfl (hb hby at_36) ?_
    show Steps p.tables e below (T103.setTop (mkF m 37 #[.val (.long q1), .second, .val (.int p2), .val (.long n), .second, .unset, .unset] [(.long (1 : Int64)), (.long n)])) _
    refine XS.lcmp X103.here hx rfl (hb hby at_37) rfl ?_
    exact k_)
  by_cases hc : (1 : Int64) < n
  · skip
    have em := own_m15 bn.1 bn.2
    have en := own_next_v bn.1 bn.2
    obtain ⟨_, _, ⟨T105, L105, k105, n105⟩, -, X105, ⟨Lc105, hQ105, l105, y105, z105⟩, st105⟩ := Jvm.LawKit.callS X103 hx (y := (⟨"com/example/wakeline/wakeline/index/ExtentTree", "bytes", "(J)J"⟩ : MethodName)) hown (mvT hZ (hw _ (List.mem_of_getElem? (i := 1) rfl))) (mvT hZ (hw _ (List.mem_of_getElem? (i := 2) rfl))) (mvT hZ (hw _ (List.mem_of_getElem? (i := 3) rfl))) (mvT hZ (hw _ (List.mem_of_getElem? (i := 4) rfl))) (by decide) (backOf (W := 0) (rm1 l Z a0 hw [] n h0 n0 Z0 bn.1 bn.2) hZ (hw _ (List.mem_of_getElem? (i := 4) rfl)) (hw _ (List.mem_of_getElem? (i := 3) rfl)) (by decide) (by decide)) (g := (mkF m 72 #[.val (.long q1), .second, .val (.int p2), .val (.long n), .second, .val (.long ((n + (15 : Int64)) / (16 : Int64))), .second] [(.long n)])) rfl (by rw [hml]; rfl) (argsL := [(.long n)]) (rest := []) (lenOf pd_0 rfl) rfl (by show 2 * 0 + _ ≤ _; exact Nat.le_of_eq rfl) (hb hby at_72) (fun _ _ => ⟨rfl, e103, (by decide : 0 + 0 ≤ _), (by decide : 0 + 0 ≤ _)⟩)
    dsimp only [Pt.U, Pt.locs, Pt.cells, Pt.slots] at X105 l105 y105 z105 st105 hQ105
    subst l105 y105 z105
    obtain ⟨rfl, N105q, e105⟩ := hQ105
    have N105 := Fr.app N103 N105q
    obtain ⟨_, _, ⟨T106, L106, k106, n106⟩, -, X106, ⟨Lc106, hQ106, l106, y106, z106⟩, st106⟩ := Jvm.LawKit.callS X105 hx (y := (⟨"com/example/wakeline/wakeline/index/ExtentTree", "bytes", "(J)J"⟩ : MethodName)) hown (mvT hZ (hw _ (List.mem_of_getElem? (i := 1) rfl))) (mvT hZ (hw _ (List.mem_of_getElem? (i := 2) rfl))) (mvT hZ (hw _ (List.mem_of_getElem? (i := 3) rfl))) (mvT hZ (hw _ (List.mem_of_getElem? (i := 4) rfl))) (by decide) (backOf (W := 2) (rm1 l Z a0 hw [] ((n + (15 : Int64)) / (16 : Int64)) h0 n0 Z0 (by rw [em, en]; omega) (by rw [em, en]; omega)) hZ (hw _ (List.mem_of_getElem? (i := 4) rfl)) (hw _ (List.mem_of_getElem? (i := 3) rfl)) (by decide) (by decide)) (g := (mkF m 77 #[.val (.long q1), .second, .val (.int p2), .val (.long n), .second, .val (.long ((n + (15 : Int64)) / (16 : Int64))), .second] [(.long ((n + (15 : Int64)) / (16 : Int64))), (.long (own_bytes n))])) rfl (by rw [hml]; rfl) (argsL := [(.long ((n + (15 : Int64)) / (16 : Int64)))]) (rest := [(.long (own_bytes n))]) (lenOf pd_0 rfl) rfl (by show 2 * 0 + _ ≤ _; exact Nat.le_of_eq rfl) (hb hby at_77) (fun _ _ => ⟨rfl, e105, (by decide : 0 + 0 ≤ _), (by decide : 0 + 0 ≤ _)⟩)
    dsimp only [Pt.U, Pt.locs, Pt.cells, Pt.slots] at X106 l106 y106 z106 st106 hQ106
    subst l106 y106 z106
    obtain ⟨rfl, N106q, e106⟩ := hQ106
    have N106 := Fr.app N105 N106q
    have pre107 : ∀ t_, Steps p.tables e below (T106.setTop (mkF m 102 #[.val (.long q1), .second, .val (.int p2), .val (.long n), .second, .val (.long ((n + (15 : Int64)) / (16 : Int64))), .second] [(.int (1 : Int32))])) t_ → Steps p.tables e below (s₁.setTop (entryFrame m #[(.long q1), (.int p2)] maxLocals)) t_ := fun t_ k_ => pre104 _ (by
      show Steps p.tables e below (T103.setTop (mkF m 38 #[.val (.long q1), .second, .val (.int p2), .val (.long n), .second, .unset, .unset] [(.int (lcmpW n (1 : Int64)))])) _
      refine XS.ifYes X103.here hx rfl (pc0 := 38) (pc' := 60) rfl (hb hby at_38) rfl ((if0 _ _).trans (tlt ((lw_gt _ _).mpr hc)).2.2.1) (by decide) (by decide) ?_
      show Steps p.tables e below (T103.setTop (mkF m 60 #[.val (.long q1), .second, .val (.int p2), .val (.long n), .second, .unset, .unset] [])) _
      refine XS.lloadN X103.here hx rfl (hb hby at_60) rfl ?_
      show Steps p.tables e below (T103.setTop (mkF m 61 #[.val (.long q1), .second, .val (.int p2), .val (.long n), .second, .unset, .unset] [(.long n)])) _
      refine X103.ldc2Long hx hown (mvT hZ (hw _ (List.mem_of_getElem? (i := 8) rfl))) (g := (mkF m 61 #[.val (.long q1), .second, .val (.int p2), .val (.long n), .second, .unset, .unset] [(.long n)])) rfl (hb hby at_61) _ ?_
      show Steps p.tables e below (T103.setTop (mkF m 64 #[.val (.long q1), .second, .val (.int p2), .val (.long n), .second, .unset, .unset] [(.long (15 : Int64)), (.long n)])) _
      refine XS.ladd X103.here hx rfl (hb hby at_64) rfl ?_
      show Steps p.tables e below (T103.setTop (mkF m 65 #[.val (.long q1), .second, .val (.int p2), .val (.long n), .second, .unset, .unset] [(.long (n + (15 : Int64)))])) _
      refine X103.ldc2Long hx hown (mvT hZ (hw _ (List.mem_of_getElem? (i := 9) rfl))) (g := (mkF m 65 #[.val (.long q1), .second, .val (.int p2), .val (.long n), .second, .unset, .unset] [(.long (n + (15 : Int64)))])) rfl (hb hby at_65) _ ?_
      show Steps p.tables e below (T103.setTop (mkF m 68 #[.val (.long q1), .second, .val (.int p2), .val (.long n), .second, .unset, .unset] [(.long (16 : Int64)), (.long (n + (15 : Int64)))])) _
      refine XS.ldiv X103.here hx rfl (hb hby at_68) rfl (by decide) ?_
      show Steps p.tables e below (T103.setTop (mkF m 69 #[.val (.long q1), .second, .val (.int p2), .val (.long n), .second, .unset, .unset] [(.long ((n + (15 : Int64)) / (16 : Int64)))])) _
      refine XS.lstore X103.here hx rfl (hb hby at_69) rfl (l' := #[.val (.long q1), .second, .val (.int p2), .val (.long n), .second, .val (.long ((n + (15 : Int64)) / (16 : Int64))), .second]) rfl ?_
      show Steps p.tables e below (T103.setTop (mkF m 71 #[.val (.long q1), .second, .val (.int p2), .val (.long n), .second, .val (.long ((n + (15 : Int64)) / (16 : Int64))), .second] [])) _
      refine XS.lloadN X103.here hx rfl (hb hby at_71) rfl ?_
      show Steps p.tables e below (T103.setTop (mkF m 72 #[.val (.long q1), .second, .val (.int p2), .val (.long n), .second, .val (.long ((n + (15 : Int64)) / (16 : Int64))), .second] [(.long n)])) _
      refine st105 _ ?_
      show Steps p.tables e below (T105.setTop (mkF m 75 #[.val (.long q1), .second, .val (.int p2), .val (.long n), .second, .val (.long ((n + (15 : Int64)) / (16 : Int64))), .second] [(.long (own_bytes n))])) _
      refine XS.lload X105.here hx rfl (hb hby at_75) rfl ?_
      show Steps p.tables e below (T105.setTop (mkF m 77 #[.val (.long q1), .second, .val (.int p2), .val (.long n), .second, .val (.long ((n + (15 : Int64)) / (16 : Int64))), .second] [(.long ((n + (15 : Int64)) / (16 : Int64))), (.long (own_bytes n))])) _
      refine st106 _ ?_
      show Steps p.tables e below (T106.setTop (mkF m 80 #[.val (.long q1), .second, .val (.int p2), .val (.long n), .second, .val (.long ((n + (15 : Int64)) / (16 : Int64))), .second] [(.long (own_bytes ((n + (15 : Int64)) / (16 : Int64)))), (.long (own_bytes n))])) _
      refine X106.ldc2Long hx hown (mvT hZ (hw _ (List.mem_of_getElem? (i := 11) rfl))) (g := (mkF m 80 #[.val (.long q1), .second, .val (.int p2), .val (.long n), .second, .val (.long ((n + (15 : Int64)) / (16 : Int64))), .second] [(.long (own_bytes ((n + (15 : Int64)) / (16 : Int64)))), (.long (own_bytes n))])) rfl (hb hby at_80) _ ?_
      show Steps p.tables e below (T106.setTop (mkF m 83 #[.val (.long q1), .second, .val (.int p2), .val (.long n), .second, .val (.long ((n + (15 : Int64)) / (16 : Int64))), .second] [(.long (4 : Int64)), (.long (own_bytes ((n + (15 : Int64)) / (16 : Int64)))), (.long (own_bytes n))])) _
      refine XS.lloadN X106.here hx rfl (hb hby at_83) rfl ?_
      show Steps p.tables e below (T106.setTop (mkF m 84 #[.val (.long q1), .second, .val (.int p2), .val (.long n), .second, .val (.long ((n + (15 : Int64)) / (16 : Int64))), .second] [(.long n), (.long (4 : Int64)), (.long (own_bytes ((n + (15 : Int64)) / (16 : Int64)))), (.long (own_bytes n))])) _
      refine XS.lmul X106.here hx rfl (hb hby at_84) rfl ?_
      show Steps p.tables e below (T106.setTop (mkF m 85 #[.val (.long q1), .second, .val (.int p2), .val (.long n), .second, .val (.long ((n + (15 : Int64)) / (16 : Int64))), .second] [(.long ((4 : Int64) * n)), (.long (own_bytes ((n + (15 : Int64)) / (16 : Int64)))), (.long (own_bytes n))])) _
      refine XS.ladd X106.here hx rfl (hb hby at_85) rfl ?_
      show Steps p.tables e below (T106.setTop (mkF m 86 #[.val (.long q1), .second, .val (.int p2), .val (.long n), .second, .val (.long ((n + (15 : Int64)) / (16 : Int64))), .second] [(.long ((own_bytes ((n + (15 : Int64)) / (16 : Int64))) + ((4 : Int64) * n))), (.long (own_bytes n))])) _
      refine X106.ldc2Long hx hown (mvT hZ (hw _ (List.mem_of_getElem? (i := 12) rfl))) (g := (mkF m 86 #[.val (.long q1), .second, .val (.int p2), .val (.long n), .second, .val (.long ((n + (15 : Int64)) / (16 : Int64))), .second] [(.long ((own_bytes ((n + (15 : Int64)) / (16 : Int64))) + ((4 : Int64) * n))), (.long (own_bytes n))])) rfl (hb hby at_86) _ ?_
      show Steps p.tables e below (T106.setTop (mkF m 89 #[.val (.long q1), .second, .val (.int p2), .val (.long n), .second, .val (.long ((n + (15 : Int64)) / (16 : Int64))), .second] [(.long (188 : Int64)), (.long ((own_bytes ((n + (15 : Int64)) / (16 : Int64))) + ((4 : Int64) * n))), (.long (own_bytes n))])) _
      refine XS.lload X106.here hx rfl (hb hby at_89) rfl ?_
      show Steps p.tables e below (T106.setTop (mkF m 91 #[.val (.long q1), .second, .val (.int p2), .val (.long n), .second, .val (.long ((n + (15 : Int64)) / (16 : Int64))), .second] [(.long ((n + (15 : Int64)) / (16 : Int64))), (.long (188 : Int64)), (.long ((own_bytes ((n + (15 : Int64)) / (16 : Int64))) + ((4 : Int64) * n))), (.long (own_bytes n))])) _
      refine XS.lmul X106.here hx rfl (hb hby at_91) rfl ?_
      show Steps p.tables e below (T106.setTop (mkF m 92 #[.val (.long q1), .second, .val (.int p2), .val (.long n), .second, .val (.long ((n + (15 : Int64)) / (16 : Int64))), .second] [(.long ((188 : Int64) * ((n + (15 : Int64)) / (16 : Int64)))), (.long ((own_bytes ((n + (15 : Int64)) / (16 : Int64))) + ((4 : Int64) * n))), (.long (own_bytes n))])) _
      refine XS.ladd X106.here hx rfl (hb hby at_92) rfl ?_
      show Steps p.tables e below (T106.setTop (mkF m 93 #[.val (.long q1), .second, .val (.int p2), .val (.long n), .second, .val (.long ((n + (15 : Int64)) / (16 : Int64))), .second] [(.long (((own_bytes ((n + (15 : Int64)) / (16 : Int64))) + ((4 : Int64) * n)) + ((188 : Int64) * ((n + (15 : Int64)) / (16 : Int64))))), (.long (own_bytes n))])) _
      refine XS.lcmp X106.here hx rfl (hb hby at_93) rfl ?_
      show Steps p.tables e below (T106.setTop (mkF m 94 #[.val (.long q1), .second, .val (.int p2), .val (.long n), .second, .val (.long ((n + (15 : Int64)) / (16 : Int64))), .second] [(.int (lcmpW (own_bytes n) (((own_bytes ((n + (15 : Int64)) / (16 : Int64))) + ((4 : Int64) * n)) + ((188 : Int64) * ((n + (15 : Int64)) / (16 : Int64))))))])) _
      refine XS.ifNo X106.here hx rfl (hb hby at_94) rfl ((if0 _ _).trans (teq ((lw_eq _ _).mpr (by rw [em]; exact own_bn hc bn.2))).2) ?_
      show Steps p.tables e below (T106.setTop (mkF m 97 #[.val (.long q1), .second, .val (.int p2), .val (.long n), .second, .val (.long ((n + (15 : Int64)) / (16 : Int64))), .second] [])) _
      refine XS.iconst X106.here hx rfl (hb hby at_97) ?_
      show Steps p.tables e below (T106.setTop (mkF m 98 #[.val (.long q1), .second, .val (.int p2), .val (.long n), .second, .val (.long ((n + (15 : Int64)) / (16 : Int64))), .second] [(.int (1 : Int32))])) _
      refine XS.goto X106.here hx rfl (pc0 := 98) (pc' := 102) rfl (hb hby at_98) (by decide) (by decide) ?_
      exact k_)
    obtain ⟨fs, hr, hrun, hended, hW, hsame⟩ := X106.leave (v := some (.int (1 : Int32))) (fun h => by rw [Bd.returns] at h; cases h)
    refine ⟨_, _, pre107 _ ?_, hrun, hended, _, _, rfl, ?_, ⟨_, rfl⟩, hW, hsame.mono (by decide) (by decide)⟩
    · show Steps p.tables e below (T106.setTop (mkF m 102 #[.val (.long q1), .second, .val (.int p2), .val (.long n), .second, .val (.long ((n + (15 : Int64)) / (16 : Int64))), .second] [(.int (1 : Int32))])) _
      exact retN X106 hx (t := .boolean) Bd.returns (by simp) (hb hby at_102) hr
    · show Qrm0 Z q1 p2 h0 n0 _ T106.heap _
      rw [e106]
      exact ⟨rfl, N106⟩
  · skip
    obtain ⟨_, _, ⟨T108, L108, k108, n108⟩, -, X108, ⟨Lc108, hQ108, l108, y108, z108⟩, st108⟩ := Jvm.LawKit.callS X103 hx (y := (⟨"com/example/wakeline/wakeline/index/ExtentTree", "bytes", "(J)J"⟩ : MethodName)) hown (mvT hZ (hw _ (List.mem_of_getElem? (i := 1) rfl))) (mvT hZ (hw _ (List.mem_of_getElem? (i := 2) rfl))) (mvT hZ (hw _ (List.mem_of_getElem? (i := 3) rfl))) (mvT hZ (hw _ (List.mem_of_getElem? (i := 4) rfl))) (by decide) (backOf (W := 0) (rm1 l Z a0 hw [] n h0 n0 Z0 bn.1 bn.2) hZ (hw _ (List.mem_of_getElem? (i := 4) rfl)) (hw _ (List.mem_of_getElem? (i := 3) rfl)) (by decide) (by decide)) (g := (mkF m 42 #[.val (.long q1), .second, .val (.int p2), .val (.long n), .second, .unset, .unset] [(.long n)])) rfl (by rw [hml]; rfl) (argsL := [(.long n)]) (rest := []) (lenOf pd_0 rfl) rfl (by show 2 * 0 + _ ≤ _; exact Nat.le_of_eq rfl) (hb hby at_42) (fun _ _ => ⟨rfl, e103, (by decide : 0 + 0 ≤ _), (by decide : 0 + 0 ≤ _)⟩)
    dsimp only [Pt.U, Pt.locs, Pt.cells, Pt.slots] at X108 l108 y108 z108 st108 hQ108
    subst l108 y108 z108
    obtain ⟨rfl, N108q, e108⟩ := hQ108
    have N108 := Fr.app N103 N108q
    have pre109 : ∀ t_, Steps p.tables e below (T108.setTop (mkF m 59 #[.val (.long q1), .second, .val (.int p2), .val (.long n), .second, .unset, .unset] [(.int (1 : Int32))])) t_ → Steps p.tables e below (s₁.setTop (entryFrame m #[(.long q1), (.int p2)] maxLocals)) t_ := fun t_ k_ => pre104 _ (by
      show Steps p.tables e below (T103.setTop (mkF m 38 #[.val (.long q1), .second, .val (.int p2), .val (.long n), .second, .unset, .unset] [(.int (lcmpW n (1 : Int64)))])) _
      refine XS.ifNo X103.here hx rfl (hb hby at_38) rfl ((if0 _ _).trans (flt (mt (lw_gt _ _).mp hc)).2.2.1) ?_
      show Steps p.tables e below (T103.setTop (mkF m 41 #[.val (.long q1), .second, .val (.int p2), .val (.long n), .second, .unset, .unset] [])) _
      refine XS.lloadN X103.here hx rfl (hb hby at_41) rfl ?_
      show Steps p.tables e below (T103.setTop (mkF m 42 #[.val (.long q1), .second, .val (.int p2), .val (.long n), .second, .unset, .unset] [(.long n)])) _
      refine st108 _ ?_
      show Steps p.tables e below (T108.setTop (mkF m 45 #[.val (.long q1), .second, .val (.int p2), .val (.long n), .second, .unset, .unset] [(.long (own_bytes n))])) _
      refine X108.ldc2Long hx hown (mvT hZ (hw _ (List.mem_of_getElem? (i := 7) rfl))) (g := (mkF m 45 #[.val (.long q1), .second, .val (.int p2), .val (.long n), .second, .unset, .unset] [(.long (own_bytes n))])) rfl (hb hby at_45) _ ?_
      show Steps p.tables e below (T108.setTop (mkF m 48 #[.val (.long q1), .second, .val (.int p2), .val (.long n), .second, .unset, .unset] [(.long (196 : Int64)), (.long (own_bytes n))])) _
      refine XS.lloadN X108.here hx rfl (hb hby at_48) rfl ?_
      show Steps p.tables e below (T108.setTop (mkF m 49 #[.val (.long q1), .second, .val (.int p2), .val (.long n), .second, .unset, .unset] [(.long n), (.long (196 : Int64)), (.long (own_bytes n))])) _
      refine XS.lmul X108.here hx rfl (hb hby at_49) rfl ?_
      show Steps p.tables e below (T108.setTop (mkF m 50 #[.val (.long q1), .second, .val (.int p2), .val (.long n), .second, .unset, .unset] [(.long ((196 : Int64) * n)), (.long (own_bytes n))])) _
      refine XS.lcmp X108.here hx rfl (hb hby at_50) rfl ?_
      show Steps p.tables e below (T108.setTop (mkF m 51 #[.val (.long q1), .second, .val (.int p2), .val (.long n), .second, .unset, .unset] [(.int (lcmpW (own_bytes n) ((196 : Int64) * n)))])) _
      refine XS.ifNo X108.here hx rfl (hb hby at_51) rfl ((if0 _ _).trans (teq ((lw_eq _ _).mpr (own_small bn.1 hc))).2) ?_
      show Steps p.tables e below (T108.setTop (mkF m 54 #[.val (.long q1), .second, .val (.int p2), .val (.long n), .second, .unset, .unset] [])) _
      refine XS.iconst X108.here hx rfl (hb hby at_54) ?_
      show Steps p.tables e below (T108.setTop (mkF m 55 #[.val (.long q1), .second, .val (.int p2), .val (.long n), .second, .unset, .unset] [(.int (1 : Int32))])) _
      refine XS.goto X108.here hx rfl (pc0 := 55) (pc' := 59) rfl (hb hby at_55) (by decide) (by decide) ?_
      exact k_)
    obtain ⟨fs, hr, hrun, hended, hW, hsame⟩ := X108.leave (v := some (.int (1 : Int32))) (fun h => by rw [Bd.returns] at h; cases h)
    refine ⟨_, _, pre109 _ ?_, hrun, hended, _, _, rfl, ?_, ⟨_, rfl⟩, hW, hsame.mono (by decide) (by decide)⟩
    · show Steps p.tables e below (T108.setTop (mkF m 59 #[.val (.long q1), .second, .val (.int p2), .val (.long n), .second, .unset, .unset] [(.int (1 : Int32))])) _
      exact retN X108 hx (t := .boolean) Bd.returns (by simp) (hb hby at_59) hr
    · show Qrm0 Z q1 p2 h0 n0 _ T108.heap _
      rw [e108]
      exact ⟨rfl, N108⟩
set_option maxRecDepth 65536 in
set_option maxHeartbeats 40000000 in
theorem comes_1 {Post : Tables → Env → Array Value → State → Outcome → State → Prop} (hpost : ∀ tb e args s v u, (limb_1_1.after args s (.returned v) u = true ∧ limb_1_2.after args s (.returned v) u = true ∧ True) → FrameEnd s (.returned v) u (Jvm.fieldLocs frame_1_writes args s ++ Jvm.arrayLocs frame_1_arrays args s ++ Jvm.staticLocs frame_1_statics s) 0 0 → Post tb e args s (.returned v) u) :
    ArmFor flags0 classFile x code maxLocals ret World_1 tables_1 room_1 Calls_1 rest_1 Pre_1 Post := by
  intro l hfl _ _ p e ha hc hk s m args below hf hA hF happ hP
  obtain ⟨hcalls, hrest, hpre⟩ := hP
  obtain ⟨-, -, -, hnamed, -, -, -, hat⟩ := (Spec.applies_iff hf).mp happ
  obtain ⟨hg, hn⟩ := and_e (Cond.before_iff.mp (show (Jvm.Cond.and given_1 narrow_1).before args s = true from hpre))
  obtain ⟨gg1, gg2⟩ := and_e hg
  obtain ⟨gg3, gg4⟩ := and_e gg2
  obtain ⟨w0, w1, rfl⟩ : ∃ w0 w1 : Value, args = #[w0, w1] := by
    have hs : args.size = 2 := by simpa [Cond.value, given_1] using gg1
    obtain ⟨L⟩ := args
    match L, hs with
    | [w0, w1], _ => exact ⟨w0, w1, rfl⟩
  have hw := fun d (hd : d ∈ tables_1) => atoms_spec (ws := Jvm.Cond.code x code maxLocals ret :: tables_1) hat d (List.mem_cons_of_mem _ hd)
  have hfit : Fit s := fun {y c} hc i hi => by
    obtain ⟨ha, rfl⟩ := Array.getElem?_eq_some_iff.mp hc
    have q := List.all_eq_true.mp ((Array.all_eq_true_iff_forall_mem.mp hF) _ (Array.getElem_mem ha)) i (List.mem_range.mpr hi)
    simpa [Array.getElem?_eq_getElem hi] using q
  obtain ⟨i0, ei0⟩ := isL_v gg3
  obtain rfl : w0 = (.long i0) := Option.some.inj ei0
  obtain ⟨i1, ei1⟩ := is_v gg4
  obtain rfl : w1 = (.int i1) := Option.some.inj ei1
  obtain ⟨n, o, h1, h2, h3, _, L, rfl, ⟨rfl, N⟩, hq⟩ := rm0 l s _ hw tables_1 i0 i1 s.heap s.heap.size (Nat.le_refl _)  p e ha hc hk s m _ below hf ((Spec.applies_iff_loose hf).mp happ).1 ⟨rfl, State.Warmed39.refl s, rfl⟩ trivial
  refine ⟨n, _, h1, h2, h3, hpost _ _ _ _ _ _ ⟨Cond.after_iff.mpr rfl, Cond.after_iff.mpr (eq_i res_at (Term.int_eval (1)) rfl), trivial⟩ ⟨hq.1, hq.2.1, (hq.2.2.sift fun y hy => Or.inr (N y hy)).mono (by decide) (by decide)⟩⟩
theorem main_1_1 : Claimed_1_1 := comes_1 fun _ _ _ _ _ _ h hF => ⟨h.1, hF⟩
theorem main_1_2 : Claimed_1_2 := comes_1 fun _ _ _ _ _ _ h hF => ⟨h.2.1, hF⟩
end Jvm.Pilot.@@N@@
namespace Jvm.Pilot.@@N@@
open Jvm Jvm.ClassFile Sem Op Lib Jvm.Free Jvm.Stand Jvm.Pilot.@@N@@.Jvm.D
/-! MADE BY PROGRAM (witnessworld.py) out of the Statement's table words and the real class files: 9 classes; the members and pool entries that the words name. The judged class is class 1, her method 1. -/
namespace start1
open Jvm.ClassFile
def u (s : String) : CpInfo := .utf8 (stringToUtf16 s)
/-- a pool by its gaps: so many unusable entries, then the entry; so many at the end -/
def gap : Nat → List CpInfo → List CpInfo
  | 0, r => r
  | n + 1, r => .unusable :: gap n r
def poolList (es : List (Nat × CpInfo)) (last : Nat) : List CpInfo := es.foldr (fun e r => gap e.1 (e.2 :: r)) (gap last [])
def pool (es : List (Nat × CpInfo)) (last : Nat) : Array CpInfo := ⟨poolList es last⟩
def fileOf (pool : Array CpInfo) (this : Nat) (attrs : Array Attribute := #[]) (ms : Array MethodInfo := #[]) (fl : Nat := 33) (sup : Nat := 0) (ifs : Array Nat := #[]) (fds : Array FieldInfo := #[]) : ClassFile where
  minorVersion := 0
  majorVersion := 65
  constantPool := pool
  accessFlags := fl
  thisClass := this
  superClass := sup
  interfaces := ifs
  fields := fds
  methods := ms
  attributes := attrs
def plain (name : String) (sup : Option ClassId) : Class where
  name := name
  kind := .ordinary
  loader := none
  accessFlags := 33
  super := sup
  interfaces := #[]
  cf := none
  fields := #[]
  methods := #[]
  instanceTypes := #[]
  staticTypes := #[]
  resolved := #[]
  callSites := []
  init := .initialized
  statics := none
  mirror := none

def pool0 : Array CpInfo := pool [(5, u "<init>"), (0, u "()V"), (1, .class_ 10), (1, u "java/lang/Object")] 113

def k0m0 : Method := { name := "<init>", desc := "()V", sig := { parameters := [], returnType := none }, accessFlags := 1, code := none }
/-- java/lang/Object -/
def k0 : Class := { plain "java/lang/Object" none with
  accessFlags := 33
  interfaces := #[]
  cf := some (fileOf pool0 8 #[] #[{ accessFlags := 1, nameIndex := 5, descriptorIndex := 6, attributes := #[] }] 33 0 #[] #[])
  fields := #[]
  methods := #[k0m0]
  instanceTypes := #[]
  staticTypes := #[]
  resolved := Array.replicate 124 none
  statics := none }

def pool1 : Array CpInfo := pool [(2, .class_ 4), (1, u "java/lang/Object"), (0, u "<init>"), (0, u "()V"), (0, .long 72057594037927935), (1, .methodref 10 11), (0, .class_ 12), (0, .nameAndType 13 14), (0, u "com/example/wakeline/wakeline/index/ExtentTree"), (0, u "bytes"), (0, u "(J)J"), (0, .long 196), (1, .long 15), (1, .long 16), (1, .long 4), (1, .long 188), (1, .class_ 26), (0, u "com/example/wakeline/wakeline/index/ExtentTreeBytesPinLaw"), (2, u "law"), (0, u "(JI)Z")] 3

def k1m0 : Method := { name := "<init>", desc := "()V", sig := { parameters := [], returnType := none }, accessFlags := 1, code := none }
def k1c1 : Code := { maxStack := 8, maxLocals := 7, code := code, exceptionTable := #[], attributes := #[] }
def k1m1 : Method := { name := "law", desc := "(JI)Z", sig := { parameters := [.long, .int], returnType := some .boolean }, accessFlags := 9, code := some k1c1 }
/-- com/example/wakeline/wakeline/index/ExtentTreeBytesPinLaw -/
def k1 : Class := { plain "com/example/wakeline/wakeline/index/ExtentTreeBytesPinLaw" (some 0) with
  accessFlags := 49
  interfaces := #[]
  cf := some (fileOf pool1 25 #[] #[{ accessFlags := 1, nameIndex := 5, descriptorIndex := 6, attributes := #[] }, { accessFlags := 9, nameIndex := 29, descriptorIndex := 30, attributes := #[] }] 49 2 #[] #[])
  fields := #[]
  methods := #[k1m0, k1m1]
  instanceTypes := #[]
  staticTypes := #[]
  resolved := Array.replicate 34 none
  statics := none }

def pool2 : Array CpInfo := pool [(1, .class_ 2), (0, u "com/example/wakeline/wakeline/index/ExtentTree"), (3, .class_ 8), (1, u "java/lang/Object"), (59, .class_ 69), (0, u "com/example/wakeline/wakeline/index/ExtentTree$Axis"), (5, u "x"), (0, u "Lcom/example/wakeline/wakeline/index/ExtentTree$Axis;"), (2, u "y"), (9, u "time"), (1, u "[I"), (10, u "order"), (0, .long 16), (13, u "levels"), (0, u "[[J"), (2, u "sizes"), (17, .long 4), (1, .long 192), (1, .class_ 144), (0, u "com/example/wakeline/wakeline/index/ExtentTree$Hits"), (1, .class_ 147), (0, u "com/example/wakeline/wakeline/index/ExtentTree$Window"), (7, .class_ 156), (0, u "com/example/wakeline/wakeline/index/ExtentTree$NearestFirst"), (17, u "(J)J"), (17, u "J"), (99, u "FANOUT"), (0, u "I"), (2, u "AXES"), (1, u "STEPS"), (1, u "BOUNDS"), (1, u "LANE_BITS"), (0, u "LANE_MASK"), (0, u "LANES"), (1, u "TOPS"), (0, u "ONES"), (2, u "BOUND_LONGS"), (0, u "GROUP"), (1, u "MASK_STRIDE"), (10, u "bytes"), (8, .class_ 334), (0, u "com/example/wakeline/wakeline/index/ExtentTree$NearestFirst$Node")] 6

def k2c0 : Code := { maxStack := 6, maxLocals := 6, code := prog_16_method_3_code, exceptionTable := #[], attributes := #[] }
def k2m0 : Method := { name := "bytes", desc := "(J)J", sig := { parameters := [.long], returnType := some .long }, accessFlags := 9, code := some k2c0 }
/-- com/example/wakeline/wakeline/index/ExtentTree -/
def k2 : Class := { plain "com/example/wakeline/wakeline/index/ExtentTree" (some 0) with
  accessFlags := 49
  interfaces := #[]
  cf := some (fileOf pool2 1 #[.nestMembers #[155, 333, 143, 146, 68]] #[{ accessFlags := 9, nameIndex := 324, descriptorIndex := 174, attributes := #[] }] 49 6 #[] #[{ accessFlags := 26, nameIndex := 292, descriptorIndex := 293, attributes := #[] }, { accessFlags := 26, nameIndex := 296, descriptorIndex := 293, attributes := #[] }, { accessFlags := 26, nameIndex := 298, descriptorIndex := 293, attributes := #[] }, { accessFlags := 26, nameIndex := 300, descriptorIndex := 293, attributes := #[] }, { accessFlags := 26, nameIndex := 302, descriptorIndex := 293, attributes := #[] }, { accessFlags := 26, nameIndex := 303, descriptorIndex := 293, attributes := #[] }, { accessFlags := 26, nameIndex := 304, descriptorIndex := 293, attributes := #[] }, { accessFlags := 26, nameIndex := 306, descriptorIndex := 192, attributes := #[] }, { accessFlags := 26, nameIndex := 307, descriptorIndex := 192, attributes := #[] }, { accessFlags := 26, nameIndex := 310, descriptorIndex := 293, attributes := #[] }, { accessFlags := 26, nameIndex := 311, descriptorIndex := 293, attributes := #[] }, { accessFlags := 26, nameIndex := 313, descriptorIndex := 293, attributes := #[] }, { accessFlags := 18, nameIndex := 75, descriptorIndex := 76, attributes := #[] }, { accessFlags := 18, nameIndex := 79, descriptorIndex := 76, attributes := #[] }, { accessFlags := 18, nameIndex := 89, descriptorIndex := 76, attributes := #[] }, { accessFlags := 18, nameIndex := 102, descriptorIndex := 91, attributes := #[] }, { accessFlags := 18, nameIndex := 117, descriptorIndex := 118, attributes := #[] }, { accessFlags := 18, nameIndex := 121, descriptorIndex := 91, attributes := #[] }])
  fields := #[{ name := "FANOUT", type := .int, accessFlags := 26, slot := 0, constantValue := 0 }, { name := "AXES", type := .int, accessFlags := 26, slot := 1, constantValue := 0 }, { name := "STEPS", type := .int, accessFlags := 26, slot := 2, constantValue := 0 }, { name := "BOUNDS", type := .int, accessFlags := 26, slot := 3, constantValue := 0 }, { name := "LANE_BITS", type := .int, accessFlags := 26, slot := 4, constantValue := 0 }, { name := "LANE_MASK", type := .int, accessFlags := 26, slot := 5, constantValue := 0 }, { name := "LANES", type := .int, accessFlags := 26, slot := 6, constantValue := 0 }, { name := "TOPS", type := .long, accessFlags := 26, slot := 7, constantValue := 0 }, { name := "ONES", type := .long, accessFlags := 26, slot := 8, constantValue := 0 }, { name := "BOUND_LONGS", type := .int, accessFlags := 26, slot := 9, constantValue := 0 }, { name := "GROUP", type := .int, accessFlags := 26, slot := 10, constantValue := 0 }, { name := "MASK_STRIDE", type := .int, accessFlags := 26, slot := 11, constantValue := 0 }, { name := "x", type := (.object "com/example/wakeline/wakeline/index/ExtentTree$Axis"), accessFlags := 18, slot := 0, constantValue := 0 }, { name := "y", type := (.object "com/example/wakeline/wakeline/index/ExtentTree$Axis"), accessFlags := 18, slot := 1, constantValue := 0 }, { name := "time", type := (.object "com/example/wakeline/wakeline/index/ExtentTree$Axis"), accessFlags := 18, slot := 2, constantValue := 0 }, { name := "order", type := (.array .int), accessFlags := 18, slot := 3, constantValue := 0 }, { name := "levels", type := (.array (.array .long)), accessFlags := 18, slot := 4, constantValue := 0 }, { name := "sizes", type := (.array .int), accessFlags := 18, slot := 5, constantValue := 0 }]
  methods := #[k2m0]
  instanceTypes := #[(.object "com/example/wakeline/wakeline/index/ExtentTree$Axis"), (.object "com/example/wakeline/wakeline/index/ExtentTree$Axis"), (.object "com/example/wakeline/wakeline/index/ExtentTree$Axis"), (.array .int), (.array (.array .long)), (.array .int)]
  staticTypes := #[.int, .int, .int, .int, .int, .int, .int, .long, .long, .int, .int, .int]
  resolved := Array.replicate 341 none
  statics := none }

def pool3 : Array CpInfo := pool [(1, u "java/lang/Cloneable"), (0, .class_ 1), (0, u "java/lang/Object"), (0, .class_ 3)] 3

/-- java/lang/Cloneable -/
def k3 : Class := { plain "java/lang/Cloneable" (some 0) with
  accessFlags := 1537
  interfaces := #[]
  cf := some (fileOf pool3 2 #[] #[] 1537 4 #[] #[])
  fields := #[]
  methods := #[]
  instanceTypes := #[]
  staticTypes := #[]
  resolved := Array.replicate 8 none
  statics := none }

def pool4 : Array CpInfo := pool [(1, u "java/io/Serializable"), (0, .class_ 1), (0, u "java/lang/Object"), (0, .class_ 3)] 3

/-- java/io/Serializable -/
def k4 : Class := { plain "java/io/Serializable" (some 0) with
  accessFlags := 1537
  interfaces := #[]
  cf := some (fileOf pool4 2 #[] #[] 1537 4 #[] #[])
  fields := #[]
  methods := #[]
  instanceTypes := #[]
  staticTypes := #[]
  resolved := Array.replicate 8 none
  statics := none }

/-- the primitive byte -/
def k5 : Class := { plain "byte" none with kind := .primitive 'B', accessFlags := 0x411 }
/-- [B -/
def k6 : Class := { plain "[B" (some 0) with kind := .array 5 .byte, interfaces := #[3, 4], accessFlags := 1041 }

/-- the primitive int -/
def k7 : Class := { plain "int" none with kind := .primitive 'I', accessFlags := 0x411 }
/-- [I -/
def k8 : Class := { plain "[I" (some 0) with kind := .array 7 .int, interfaces := #[3, 4], accessFlags := 1041 }

def heap : Heap := #[]
def classes : Array Class := #[k0, k1, k2, k3, k4, k5, k6, k7, k8]
def interned : List (Array UInt16 × Addr) := []
def slotsUsed : Nat := 0
def theMethod : MethodId := ⟨1, 1⟩
def args0 : Array Value := #[.long 5, .int 3]
def aboutOver (below : List Frame) : State where
  vm := { classes := classes, interned := interned.toArray }
  heap := heap
  slotsUsed := slotsUsed
  threads := #[{ frames := .invoking theMethod args0 :: below }]
def below0 : List Frame := [.native { method := ⟨0, 0⟩, args := #[] }]
def about1 : State := aboutOver below0
def p0 : Program := .bare "" "" ""
def e0 : Env := launch0.env 0 0 0
theorem w_frames : about1.frames = Frame.invoking theMethod args0 :: below0 := rfl
set_option maxRecDepth 65536 in
theorem w_args : argsFit about1.vm theMethod args0 = true := by decide +kernel
set_option maxRecDepth 65536 in
theorem w_heap : heapFits about1 = true := by decide +kernel
set_option maxRecDepth 65536 in
theorem w_runnable : about1.curStatus? = some .runnable := by decide +kernel
set_option maxRecDepth 65536 in
theorem w_alone : about1.alone = true := by decide +kernel
set_option maxRecDepth 65536 in
theorem w_named : about1.methodNamed? x = some theMethod := by decide +kernel
set_option maxRecDepth 65536 in
theorem w_hears : about1.hears theMethod below0 = true := by decide +kernel
set_option maxRecDepth 65536 in
theorem w_ripe : about1.ripe theMethod args0 below0 = true := by decide +kernel
theorem w_running : about1.status = .running := rfl
set_option maxRecDepth 65536 in
theorem w_room : about1.hasRoom e0.platform room_1 = true :=
  launch0.hasRoom_least _ room_1 (by decide +kernel) (by decide +kernel) (by decide +kernel) (by decide +kernel) (by decide +kernel) (by decide +kernel)
theorem allAtoms_all (ts : List Jvm.Cond) (a : Array Jvm.Value) (st : Jvm.State) : (allAtoms ts).before a st = ts.all (fun c => c.before a st) := by
  induction ts with
  | nil => rfl
  | cons c t ih =>
    show (Jvm.Cond.and c (allAtoms t)).before a st = _
    rw [Jvm.Cond.before_and, ih, List.all_cons]
def words1 : List Jvm.Cond := Jvm.Cond.code x code maxLocals ret :: tables_1
/-- a 'code' word, met by the world's own term for the bytes: nothing is compared byte by byte -/
theorem code_word {y : MethodName} {bytes : ByteArray} {mx : Nat} {rt : Option FieldType} {a : Array Value} {s : State} {m : MethodId} {meth : Method} {c : Code} (h1 : s.methodNamed? y = some m) (h2 : s.vm.method? m = some meth) (h3 : meth.code = some c) (h4 : c.code = bytes)
    (h5 : (c.maxLocals == mx && c.exceptionTable.isEmpty && decide (c.maxStack ≤ mostOperands) && decide (meth.sig.returnType = rt) && !meth.locks && decide (parseMethodDescriptor y.desc = some meth.sig)) = true) : (Jvm.Cond.code y bytes mx rt).before a s = true := by
  simp only [Bool.and_eq_true, beq_iff_eq, Bool.not_eq_true', decide_eq_true_eq] at h5
  obtain ⟨⟨⟨⟨⟨g1, g2⟩, g3⟩, g4⟩, g5⟩, g6⟩ := h5
  simp [Cond.before, Cond.holds, Cond.value, h1, h2, h3, h4, g1, g2, g3, g4, g5, g6]
def isCode : Jvm.Cond → Bool
  | .code _ _ _ _ => true
  | _ => false
theorem all_split {L : List Jvm.Cond} {P : Jvm.Cond → Bool} (h1 : L.all (fun c => isCode c || P c) = true) (h2 : ∀ c ∈ L.filter isCode, P c = true) : L.all P = true := by
  refine List.all_eq_true.mpr fun c hc => ?_
  have h := List.all_eq_true.mp h1 c hc
  rcases Bool.eq_false_or_eq_true (isCode c) with hi | hi
  · exact h2 c (List.mem_filter.mpr ⟨hc, hi⟩)
  · simpa [hi] using h
set_option maxRecDepth 65536 in
theorem w_c0 : (Jvm.Cond.code x code maxLocals ret).before args0 about1 = true := code_word (m := ⟨1, 1⟩) (meth := k1m1) (c := k1c1) (by decide +kernel) rfl rfl rfl (by decide +kernel)
set_option maxRecDepth 65536 in
theorem w_c1 : (Jvm.Cond.code ({ cls := "com/example/wakeline/wakeline/index/ExtentTree", name := "bytes", desc := "(J)J" } : Jvm.MethodName) prog_16_method_3_code (6 : Nat) (Option.some Jvm.ClassFile.FieldType.long)).before args0 about1 = true := code_word (m := ⟨2, 0⟩) (meth := k2m0) (c := k2c0) (by decide +kernel) rfl rfl rfl (by decide +kernel)
def codes1 : List Jvm.Cond := [Jvm.Cond.code x code maxLocals ret, Jvm.Cond.code ({ cls := "com/example/wakeline/wakeline/index/ExtentTree", name := "bytes", desc := "(J)J" } : Jvm.MethodName) prog_16_method_3_code (6 : Nat) (Option.some Jvm.ClassFile.FieldType.long)]
set_option maxRecDepth 65536 in
theorem codes_eq : words1.filter isCode = codes1 := rfl
theorem w_codes : ∀ c ∈ words1.filter isCode, c.before args0 about1 = true := by
  rw [codes_eq]
  intro c hc
  simp only [codes1, List.mem_cons, List.not_mem_nil, or_false] at hc
  rcases hc with rfl | rfl
  · exact w_c0
  · exact w_c1
set_option maxRecDepth 65536 in
theorem w_t1 : words1.all (fun c => isCode c || c.before args0 about1) = true := by decide +kernel
theorem w_tables : (allAtoms (Jvm.Cond.code x code maxLocals ret :: tables_1)).before args0 about1 = true := by
  rw [allAtoms_all]
  show words1.all (fun c => c.before args0 about1) = true
  refine all_split ?_ w_codes
  rw [w_t1]
set_option maxRecDepth 65536 in
theorem w_case : (Jvm.Cond.and given_1 narrow_1).before args0 about1 = true := by decide +kernel
theorem w_applies : (headSpec (Jvm.Cond.code x code maxLocals ret :: tables_1) room_1).applies x e0.platform about1 = true :=
  (Spec.applies_iff w_frames).mpr ⟨w_running, w_runnable, w_alone, w_named, w_hears, w_ripe, w_room, w_tables⟩
theorem atStart : AtStart classFile x code maxLocals ret World_1 tables_1 room_1 Calls_1 rest_1 Pre_1 launch0 p0 e0 about1 theMethod args0 below0 :=
  ⟨lists_1, trivial, launch0.admits_env _ _ _, launch0.least_env, fairChoices_fair.cas, fairChoices_fair.clock, w_frames, w_args, w_heap, w_applies, trivial, trivial, w_case⟩
end start1
theorem witness_1 : WitnessClaimed_1 := ⟨start1.p0, start1.e0, start1.about1, start1.theMethod, start1.args0, start1.below0, start1.atStart⟩
end Jvm.Pilot.@@N@@
