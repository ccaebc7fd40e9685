import JvmDerived
import JvmDerived.Pilot.@@N@@Statement
import JvmDerived.Pilot.@@N@@Code
set_option linter.unusedVariables false
set_option linter.unusedSimpArgs false
namespace Jvm.RoadKit
open Sem ClassFile Op Lib Jvm.Stand Jvm.Free Jvm.LawKit
section New
variable {p : Program} {l : Launch} {e : Env} {R : Room} {s : State} {m : MethodId} {args : Array Value} {below : List Frame} {meth : Method} {c : Code} {T : State} {locs : List Loc} {cells slots : Nat}
theorem retI (X : Stand p l e R s m args below meth c T locs cells slots) (hx : p.tables.exec = Jvm.exec) {pc : Nat} {Ls : Array Slot} {z : Int32} {rest : List Value} (hret : meth.sig.returnType = some .int) (hd : decode c.code pc = .ok (.ireturn, 1)) {fs : List Frame}
    (hl : ∀ (f : JFrame) (acts : List Action), f.method = m → f.locked = none → f.entered = [] → (doReturn e (T.setTop f) acts (some (.int z))).1 = T.setFrames fs) : Steps p.tables e below (T.setTop (mkF m pc Ls (.int z :: rest))) (T.setFrames fs) := by
  have hm' : T.vm.method? m = some meth := X.method'
  have hn : narrow .int (.int z) = .int z := rfl
  show Steps p.tables e below (T.setTop { method := m, pc := pc, locals := Ls, stack := _ :: rest, locked := none }) _
  jvm_step X.here [X.here.top, hx, hd, hm', hret, hn]
  first | (intro acts; rw [hl _ acts rfl rfl rfl]) | rw [hl _ _ rfl rfl rfl]
  exact Steps.refl _
end New
end Jvm.RoadKit
namespace Jvm.Pilot.@@N@@
open Jvm Jvm.ClassFile Sem Op Lib Jvm.Free Jvm.Stand Jvm.LawKit Jvm.RoadKit Bundle Jvm.Pilot.@@N@@.Jvm.D
theorem own_j1 {G : Prop} {A : Prop → Prop} (h1 : A G) (h2 : A G → G) : G := h2 h1
def own_wr (p1 p2 p3 p4 p5 : Int32) : Int32 := if (p5 * p5) < (((p3 - p1) * (p3 - p1)) + ((p4 - p2) * (p4 - p2))) then 0 else 1
theorem own_sub32 {x y : Int32} (h1 : -2147483648 ≤ x.toInt - y.toInt) (h2 : x.toInt - y.toInt < 2147483648) : (x - y).toInt = x.toInt - y.toInt := by rw [Int32.toInt_sub]; exact Int.bmod_eq_of_le (by omega) (by omega)
theorem own_mul32 {x y : Int32} (h1 : -2147483648 ≤ x.toInt * y.toInt) (h2 : x.toInt * y.toInt < 2147483648) : (x * y).toInt = x.toInt * y.toInt := by rw [Int32.toInt_mul]; exact Int.bmod_eq_of_le (by omega) (by omega)
theorem own_add32 {x y : Int32} (h1 : -2147483648 ≤ x.toInt + y.toInt) (h2 : x.toInt + y.toInt < 2147483648) : (x + y).toInt = x.toInt + y.toInt := by rw [Int32.toInt_add]; exact Int.bmod_eq_of_le (by omega) (by omega)
theorem own_sub64 {x y : Int64} (h1 : -9223372036854775808 ≤ x.toInt - y.toInt) (h2 : x.toInt - y.toInt < 9223372036854775808) : (x - y).toInt = x.toInt - y.toInt := by rw [Int64.toInt_sub]; exact Int.bmod_eq_of_le (by omega) (by omega)
theorem own_mul64 {x y : Int64} (h1 : -9223372036854775808 ≤ x.toInt * y.toInt) (h2 : x.toInt * y.toInt < 9223372036854775808) : (x * y).toInt = x.toInt * y.toInt := by rw [Int64.toInt_mul]; exact Int.bmod_eq_of_le (by omega) (by omega)
theorem own_add64 {x y : Int64} (h1 : -9223372036854775808 ≤ x.toInt + y.toInt) (h2 : x.toInt + y.toInt < 9223372036854775808) : (x + y).toInt = x.toInt + y.toInt := by rw [Int64.toInt_add]; exact Int.bmod_eq_of_le (by omega) (by omega)
theorem own_neg64 {x : Int64} (h1 : -9223372036854775808 < x.toInt) : (-x).toInt = -x.toInt := by
  have := x.toInt_lt
  rw [Int64.toInt_neg]; exact Int.bmod_eq_of_le (by omega) (by omega)
theorem own_sqle {a r : Int} (ha : 0 ≤ a) (hr : 0 ≤ r) (h : a * a ≤ r * r) : a ≤ r := by
  apply Int.not_lt.mp
  intro q
  have h1 : (r + 1) * (r + 1) ≤ a * a := Int.mul_le_mul (by omega) (by omega) (by omega) ha
  have h2 : (r + 1) * (r + 1) = r * r + 2 * r + 1 := by rw [Int.add_mul, Int.mul_add]; omega
  omega
theorem own_sqb {a : Int} {k : Nat} (h1 : -(k : Int) ≤ a) (h2 : a ≤ k) : 0 ≤ a * a ∧ a * a ≤ (k : Int) * k := by
  rcases Int.le_total 0 a with h | h
  · exact ⟨Int.mul_nonneg h h, Int.mul_le_mul h2 h2 h (by omega)⟩
  · have e : a * a = (-a) * (-a) := (Int.neg_mul_neg a a).symm
    rw [e]
    exact ⟨Int.mul_nonneg (by omega) (by omega), Int.mul_le_mul (by omega) (by omega) (by omega) (by omega)⟩
theorem own_one {x1 y1 x2 y2 r : Int32} {dx dy rr : Int64} (hx1 : 0 ≤ x1.toInt ∧ x1.toInt ≤ 127) (hy1 : 0 ≤ y1.toInt ∧ y1.toInt ≤ 127) (hx2 : 0 ≤ x2.toInt ∧ x2.toInt ≤ 127) (hy2 : 0 ≤ y2.toInt ∧ y2.toInt ≤ 127) (hr : 0 ≤ r.toInt ∧ r.toInt ≤ 255)
    (hdx : dx.toInt = x2.toInt - x1.toInt ∨ dx.toInt = x1.toInt - x2.toInt) (hdx0 : 0 ≤ dx.toInt) (hdy : dy.toInt = y2.toInt - y1.toInt ∨ dy.toInt = y1.toInt - y2.toInt) (hdy0 : 0 ≤ dy.toInt) (hrr : rr.toInt = r.toInt) :
    (¬ rr < dx ∧ ¬ rr < dy ∧ ¬ rr * rr < dx * dx + dy * dy) ↔ ¬ (r * r) < (((x2 - x1) * (x2 - x1)) + ((y2 - y1) * (y2 - y1))) := by
  have a1 : (x2 - x1).toInt = x2.toInt - x1.toInt := own_sub32 (by omega) (by omega)
  have a2 : (y2 - y1).toInt = y2.toInt - y1.toInt := own_sub32 (by omega) (by omega)
  have b1 := own_sqb (a := x2.toInt - x1.toInt) (k := 127) (by omega) (by omega)
  have b2 := own_sqb (a := y2.toInt - y1.toInt) (k := 127) (by omega) (by omega)
  have b3 := own_sqb (a := r.toInt) (k := 255) (by omega) (by omega)
  have e1 : dx.toInt * dx.toInt = (x2.toInt - x1.toInt) * (x2.toInt - x1.toInt) := by
    rcases hdx with q | q
    · rw [q]
    · rw [q, ← Int.neg_mul_neg]; congr 1 <;> omega
  have e2 : dy.toInt * dy.toInt = (y2.toInt - y1.toInt) * (y2.toInt - y1.toInt) := by
    rcases hdy with q | q
    · rw [q]
    · rw [q, ← Int.neg_mul_neg]; congr 1 <;> omega
  have c1 : ((x2 - x1) * (x2 - x1)).toInt = (x2.toInt - x1.toInt) * (x2.toInt - x1.toInt) := by rw [own_mul32 (by rw [a1]; omega) (by rw [a1]; omega), a1]
  have c2 : ((y2 - y1) * (y2 - y1)).toInt = (y2.toInt - y1.toInt) * (y2.toInt - y1.toInt) := by rw [own_mul32 (by rw [a2]; omega) (by rw [a2]; omega), a2]
  have c3 : (r * r).toInt = r.toInt * r.toInt := own_mul32 (by omega) (by omega)
  have c4 : (((x2 - x1) * (x2 - x1)) + ((y2 - y1) * (y2 - y1))).toInt = (x2.toInt - x1.toInt) * (x2.toInt - x1.toInt) + (y2.toInt - y1.toInt) * (y2.toInt - y1.toInt) := by rw [own_add32 (by rw [c1, c2]; omega) (by rw [c1, c2]; omega), c1, c2]
  have d1 : (dx * dx).toInt = (x2.toInt - x1.toInt) * (x2.toInt - x1.toInt) := by rw [own_mul64 (by omega) (by omega), e1]
  have d2 : (dy * dy).toInt = (y2.toInt - y1.toInt) * (y2.toInt - y1.toInt) := by rw [own_mul64 (by omega) (by omega), e2]
  have d3 : (rr * rr).toInt = r.toInt * r.toInt := by rw [own_mul64 (by rw [hrr]; omega) (by rw [hrr]; omega), hrr]
  have d4 : (dx * dx + dy * dy).toInt = (x2.toInt - x1.toInt) * (x2.toInt - x1.toInt) + (y2.toInt - y1.toInt) * (y2.toInt - y1.toInt) := by rw [own_add64 (by omega) (by omega), d1, d2]
  rw [Int64.lt_iff_toInt_lt, Int64.lt_iff_toInt_lt, Int64.lt_iff_toInt_lt, Int32.lt_iff_toInt_lt, c3, c4, d3, d4, hrr]
  constructor
  · intro h; exact h.2.2
  · intro h
    refine ⟨?_, ?_, h⟩
    · have := own_sqle hdx0 hr.1 (by omega); omega
    · have := own_sqle hdy0 hr.1 (by omega); omega
theorem own_abs {x y : Int32} {d : Int64} (hx : 0 ≤ x.toInt ∧ x.toInt ≤ 127) (hy : 0 ≤ y.toInt ∧ y.toInt ≤ 127) (hd : d = if x.toInt64 - y.toInt64 < 0 then -(x.toInt64 - y.toInt64) else x.toInt64 - y.toInt64) :
    (d.toInt = x.toInt - y.toInt ∨ d.toInt = y.toInt - x.toInt) ∧ 0 ≤ d.toInt := by
  have a : (x.toInt64 - y.toInt64).toInt = x.toInt - y.toInt := by rw [own_sub64 (by rw [Int32.toInt_toInt64, Int32.toInt_toInt64]; omega) (by rw [Int32.toInt_toInt64, Int32.toInt_toInt64]; omega), Int32.toInt_toInt64, Int32.toInt_toInt64]
  subst hd
  split
  · rename_i q
    rw [Int64.lt_iff_toInt_lt, a] at q
    rw [own_neg64 (by rw [a]; omega), a]
    have : (0 : Int64).toInt = 0 := rfl
    omega
  · rename_i q
    rw [Int64.lt_iff_toInt_lt, a] at q
    rw [a]
    have : (0 : Int64).toInt = 0 := rfl
    omega
theorem own_m127 (p : Int32) : 0 ≤ (p &&& 127).toInt ∧ (p &&& 127).toInt ≤ 127 := c_and p 127 (by decide)
theorem own_key (p1 p2 p3 p4 p5 : Int32) {x1 y1 x2 y2 r : Int32} {dx dy rr : Int64} {ex : Int32} (hx1 : x1 = (p1 &&& (127 : Int32))) (hy1 : y1 = (p2 &&& (127 : Int32))) (hx2 : x2 = (p3 &&& (127 : Int32))) (hy2 : y2 = (p4 &&& (127 : Int32))) (hr : r = (p5 &&& (255 : Int32)))
    (hdx : dx = (if ((x2.toInt64) - (x1.toInt64)) < 0 then -((x2.toInt64) - (x1.toInt64)) else ((x2.toInt64) - (x1.toInt64)))) (hdy : dy = (if ((y2.toInt64) - (y1.toInt64)) < 0 then -((y2.toInt64) - (y1.toInt64)) else ((y2.toInt64) - (y1.toInt64)))) (hrr : rr = (r.toInt64)) (hex : ex = if ¬ rr < dx ∧ ¬ rr < dy ∧ ¬ rr * rr < dx * dx + dy * dy then 1 else 0) :
    own_wr x1 y1 x2 y2 r = ex ∧ own_wr x2 y2 x1 y1 r = ex := by
  have b1 : 0 ≤ x1.toInt ∧ x1.toInt ≤ 127 := hx1 ▸ own_m127 p1
  have b2 : 0 ≤ y1.toInt ∧ y1.toInt ≤ 127 := hy1 ▸ own_m127 p2
  have b3 : 0 ≤ x2.toInt ∧ x2.toInt ≤ 127 := hx2 ▸ own_m127 p3
  have b4 : 0 ≤ y2.toInt ∧ y2.toInt ≤ 127 := hy2 ▸ own_m127 p4
  have b5 : 0 ≤ r.toInt ∧ r.toInt ≤ 255 := hr ▸ c_and p5 255 (by decide)
  have c1 := own_abs b3 b1 hdx
  have c2 := own_abs b4 b2 hdy
  have c3 : rr.toInt = r.toInt := by rw [hrr, Int32.toInt_toInt64]
  have k1 := own_one b1 b2 b3 b4 b5 c1.1 c1.2 c2.1 c2.2 c3
  have k2 := own_one b3 b4 b1 b2 b5 c1.1.symm c1.2 c2.1.symm c2.2 c3
  constructor
  · rw [hex, own_wr]
    by_cases q : (r * r) < (((x2 - x1) * (x2 - x1)) + ((y2 - y1) * (y2 - y1)))
    · rw [if_pos q, if_neg (fun z => k1.mp z q)]
    · rw [if_neg q, if_pos (k1.mpr q)]
  · rw [hex, own_wr]
    by_cases q : (r * r) < (((x1 - x2) * (x1 - x2)) + ((y1 - y2) * (y1 - y2)))
    · rw [if_pos q, if_neg (fun z => k2.mp z q)]
    · rw [if_neg q, if_pos (k2.mpr q)]
theorem d1_0 : decode jdk_29_method_61_code 0 = .ok (.lload_n 0, 1) := by decide +kernel
theorem d1_1 : decode jdk_29_method_61_code 1 = .ok (.lconst 0, 1) := by decide +kernel
theorem d1_2 : decode jdk_29_method_61_code 2 = .ok (.lcmp, 1) := by decide +kernel
theorem d1_3 : decode jdk_29_method_61_code 3 = .ok (.ifCond .ge 8, 3) := by decide +kernel
theorem d1_6 : decode jdk_29_method_61_code 6 = .ok (.lload_n 0, 1) := by decide +kernel
theorem d1_7 : decode jdk_29_method_61_code 7 = .ok (.lneg, 1) := by decide +kernel
theorem d1_8 : decode jdk_29_method_61_code 8 = .ok (.goto 4, 3) := by decide +kernel
theorem d1_11 : decode jdk_29_method_61_code 11 = .ok (.lload_n 0, 1) := by decide +kernel
theorem d1_12 : decode jdk_29_method_61_code 12 = .ok (.lreturn, 1) := by decide +kernel
theorem ef_rm1 (m : MethodId) (x0 : Int64) : entryFrame m #[(.long x0)] 2 = mkF m 0 #[.val (.long x0), .second] [] := by first | (simp [entryFrame, mkF, argsToLocals, Value.category]; done) | rfl
def Qrm1 (Z : State) (q1 : Int64) (h0 : Heap) (n0 : Nat) (v : Option Value) (h : Heap) (L : List Loc) : Prop := v = some (.long (if q1 < 0 then -q1 else q1)) ∧ Fr n0 L ∧ h = h0
set_option maxRecDepth 65536 in
set_option maxHeartbeats 40000000 in
theorem rm1 (l : Launch) (Z : State) (a0 : Array Value) (hw : ∀ d ∈ tables_1, d.before a0 Z = true) (ws : List Jvm.Cond) (q1 : Int64) (h0 : Heap) (n0 : Nat) (Z0 : n0 ≤ h0.size) :
    MetFree l (⟨"java/lang/Math", "abs", "(J)J"⟩ : MethodName) (head1 (Jvm.Cond.code (⟨"java/lang/Math", "abs", "(J)J"⟩ : MethodName) jdk_29_method_61_code 2 (some .long) :: ws) ({ frames := 0, cells := 0, slots := 0, locals := 0 } : Room)) (fun a U => a = #[(.long q1)] ∧ Z.Warmed39 U.vm ∧ U.heap = h0) (fun _ _ _ _ _ => True) (fun _ U o U' => ∃ v L, o = .returned v ∧ Qrm1 Z q1 h0 n0 v U'.heap L ∧ FrameEnd U o U' L ({ frames := 0, cells := 0, slots := 0, locals := 0 } : Room).cells ({ frames := 0, cells := 0, slots := 0, locals := 0 } : Room).slots) := by
  refine MetFree.of_bodySF (Jvm.Free.JP.mathPlain rfl (by decide +kernel)) hisR ?_
  intro p e s m args below meth c s₁ Bd hml0 hP hK
  obtain ⟨rfl, hZ, hh⟩ := hP
  have hx := Bd.exec
  have hby := Bd.bytes
  have hml : c.maxLocals = 2 := hml0
  have hown : s.vm.findClass "java/lang/Math" = some m.cls := findClass_of_methodNamed Bd.named
  have hnm := (name_of_methodNamed Bd.named Bd.method).1
  have X0 : Stand p l e ({ frames := 0, cells := 0, slots := 0, locals := 0 } : Room) s m #[(.long q1)] below meth c s₁ [] 0 0 := Stand.of_body Bd
  have e0 : s₁.heap = h0 := by rw [← hh, Bd.state]; rfl
  have N0 := Fr.nil n0
  have pre0 : ∀ t_, Steps p.tables e below (s₁.setTop (mkF m 0 #[.val (.long q1), .second] [])) t_ → Steps p.tables e below (s₁.setTop (entryFrame m #[(.long q1)] 2)) t_ := fun t_ k_ => castTop (ef_rm1 m q1) k_
  have pre101 : ∀ t_, Steps p.tables e below (s₁.setTop (mkF m 3 #[.val (.long q1), .second] [(.int (lcmpW q1 (0 : Int64)))])) t_ → Steps p.tables e below (s₁.setTop (entryFrame m #[(.long q1)] 2)) t_ := fun t_ k_ => pre0 _ (by
    show Steps p.tables e below (s₁.setTop (mkF m 0 #[.val (.long q1), .second] [])) _
    refine XS.lloadN X0.here hx rfl (hb hby d1_0) rfl ?_
    show Steps p.tables e below (s₁.setTop (mkF m 1 #[.val (.long q1), .second] [(.long q1)])) _
    refine XS.lconst X0.here hx rfl (hb hby d1_1) ?_
    show Steps p.tables e below (s₁.setTop (mkF m 2 #[.val (.long q1), .second] [(.long (0 : Int64)), (.long q1)])) _
    refine XS.lcmp X0.here hx rfl (hb hby d1_2) rfl ?_
    exact k_)
  by_cases hc : q1 < (0 : Int64)
  · skip
    have pre102 : ∀ t_, Steps p.tables e below (s₁.setTop (mkF m 12 #[.val (.long q1), .second] [(.long (-q1))])) t_ → Steps p.tables e below (s₁.setTop (entryFrame m #[(.long q1)] 2)) t_ := fun t_ k_ => pre101 _ (by
      show Steps p.tables e below (s₁.setTop (mkF m 3 #[.val (.long q1), .second] [(.int (lcmpW q1 (0 : Int64)))])) _
      refine XS.ifNo X0.here hx rfl (hb hby d1_3) rfl ((if0 _ _).trans (tlt ((lw_lt _ _).mpr hc)).2.1) ?_
      show Steps p.tables e below (s₁.setTop (mkF m 6 #[.val (.long q1), .second] [])) _
      refine XS.lloadN X0.here hx rfl (hb hby d1_6) rfl ?_
      show Steps p.tables e below (s₁.setTop (mkF m 7 #[.val (.long q1), .second] [(.long q1)])) _
      refine XS.lneg X0.here hx rfl (hb hby d1_7) rfl ?_
      show Steps p.tables e below (s₁.setTop (mkF m 8 #[.val (.long q1), .second] [(.long (-q1))])) _
      refine XS.goto X0.here hx rfl (pc0 := 8) (pc' := 12) rfl (hb hby d1_8) (by decide) (by decide) ?_
      exact k_)
    obtain ⟨fs, hr, hrun, hended, hW, hsame⟩ := X0.leave (v := some (.long (-q1))) (fun h => by rw [Bd.returns] at h; cases h)
    refine ⟨_, _, pre102 _ ?_, hrun, hended, _, _, rfl, ?_, ⟨_, rfl⟩, hW, hsame.mono (by decide) (by decide)⟩
    · show Steps p.tables e below (s₁.setTop (mkF m 12 #[.val (.long q1), .second] [(.long (-q1))])) _
      jvm_step X0.here [X0.here.top, hx, (hb hby d1_12), X0.method', Bd.returns, narrow]
      first | (intro acts; rw [hr _ acts rfl rfl rfl]) | rw [hr _ _ rfl rfl rfl]
      exact Steps.refl _
    · show Qrm1 Z q1 h0 n0 _ s₁.heap _
      rw [e0]
      exact ⟨by rw [if_pos hc], N0, rfl⟩
  · skip
    have pre103 : ∀ t_, Steps p.tables e below (s₁.setTop (mkF m 12 #[.val (.long q1), .second] [(.long q1)])) t_ → Steps p.tables e below (s₁.setTop (entryFrame m #[(.long q1)] 2)) t_ := fun t_ k_ => pre101 _ (by
      show Steps p.tables e below (s₁.setTop (mkF m 3 #[.val (.long q1), .second] [(.int (lcmpW q1 (0 : Int64)))])) _
      refine XS.ifYes X0.here hx rfl (pc0 := 3) (pc' := 11) rfl (hb hby d1_3) rfl ((if0 _ _).trans (flt (mt (lw_lt _ _).mp hc)).2.1) (by decide) (by decide) ?_
      show Steps p.tables e below (s₁.setTop (mkF m 11 #[.val (.long q1), .second] [])) _
      refine XS.lloadN X0.here hx rfl (hb hby d1_11) rfl ?_
      exact k_)
    obtain ⟨fs, hr, hrun, hended, hW, hsame⟩ := X0.leave (v := some (.long q1)) (fun h => by rw [Bd.returns] at h; cases h)
    refine ⟨_, _, pre103 _ ?_, hrun, hended, _, _, rfl, ?_, ⟨_, rfl⟩, hW, hsame.mono (by decide) (by decide)⟩
    · show Steps p.tables e below (s₁.setTop (mkF m 12 #[.val (.long q1), .second] [(.long q1)])) _
      jvm_step X0.here [X0.here.top, hx, (hb hby d1_12), X0.method', Bd.returns, narrow]
      first | (intro acts; rw [hr _ acts rfl rfl rfl]) | rw [hr _ _ rfl rfl rfl]
      exact Steps.refl _
    · show Qrm1 Z q1 h0 n0 _ s₁.heap _
      rw [e0]
      exact ⟨by rw [if_neg hc], N0, rfl⟩
theorem d2_0 : decode prog_18_method_18_code 0 = .ok (.iload_n 2, 1) := by decide +kernel
theorem d2_1 : decode prog_18_method_18_code 1 = .ok (.iload_n 0, 1) := by decide +kernel
theorem d2_2 : decode prog_18_method_18_code 2 = .ok (.isub, 1) := by decide +kernel
theorem d2_3 : decode prog_18_method_18_code 3 = .ok (.istore 5, 2) := by decide +kernel
theorem d2_5 : decode prog_18_method_18_code 5 = .ok (.iload_n 3, 1) := by decide +kernel
theorem d2_6 : decode prog_18_method_18_code 6 = .ok (.iload_n 1, 1) := by decide +kernel
theorem d2_7 : decode prog_18_method_18_code 7 = .ok (.isub, 1) := by decide +kernel
theorem d2_8 : decode prog_18_method_18_code 8 = .ok (.istore 6, 2) := by decide +kernel
theorem d2_10 : decode prog_18_method_18_code 10 = .ok (.iload 5, 2) := by decide +kernel
theorem d2_12 : decode prog_18_method_18_code 12 = .ok (.iload 5, 2) := by decide +kernel
theorem d2_14 : decode prog_18_method_18_code 14 = .ok (.imul, 1) := by decide +kernel
theorem d2_15 : decode prog_18_method_18_code 15 = .ok (.iload 6, 2) := by decide +kernel
theorem d2_17 : decode prog_18_method_18_code 17 = .ok (.iload 6, 2) := by decide +kernel
theorem d2_19 : decode prog_18_method_18_code 19 = .ok (.imul, 1) := by decide +kernel
theorem d2_20 : decode prog_18_method_18_code 20 = .ok (.iadd, 1) := by decide +kernel
theorem d2_21 : decode prog_18_method_18_code 21 = .ok (.iload 4, 2) := by decide +kernel
theorem d2_23 : decode prog_18_method_18_code 23 = .ok (.iload 4, 2) := by decide +kernel
theorem d2_25 : decode prog_18_method_18_code 25 = .ok (.imul, 1) := by decide +kernel
theorem d2_26 : decode prog_18_method_18_code 26 = .ok (.if_icmp .gt 7, 3) := by decide +kernel
theorem d2_29 : decode prog_18_method_18_code 29 = .ok (.iconst 1, 1) := by decide +kernel
theorem d2_30 : decode prog_18_method_18_code 30 = .ok (.goto 4, 3) := by decide +kernel
theorem d2_33 : decode prog_18_method_18_code 33 = .ok (.iconst 0, 1) := by decide +kernel
theorem d2_34 : decode prog_18_method_18_code 34 = .ok (.ireturn, 1) := by decide +kernel
theorem pn_0 : plainName "com/example/muster/muster/GameState" = true := by first | (simp [plainName, overriddenIn]; done) | decide +kernel
theorem ef_rm2 (m : MethodId) (x0 : Int32) (x1 : Int32) (x2 : Int32) (x3 : Int32) (x4 : Int32) : entryFrame m #[(.int x0), (.int x1), (.int x2), (.int x3), (.int x4)] 7 = mkF m 0 #[.val (.int x0), .val (.int x1), .val (.int x2), .val (.int x3), .val (.int x4), .unset, .unset] [] := by first | (simp [entryFrame, mkF, argsToLocals, Value.category]; done) | rfl
def Qrm2 (Z : State) (p1 : Int32) (p2 : Int32) (p3 : Int32) (p4 : Int32) (p5 : Int32) (h0 : Heap) (n0 : Nat) (v : Option Value) (h : Heap) (L : List Loc) : Prop := v = some (.int (own_wr p1 p2 p3 p4 p5)) ∧ Fr n0 L ∧ h = h0
set_option maxRecDepth 65536 in
set_option maxHeartbeats 40000000 in
theorem rm2 (l : Launch) (Z : State) (a0 : Array Value) (hw : ∀ d ∈ tables_1, d.before a0 Z = true) (ws : List Jvm.Cond) (p1 : Int32) (p2 : Int32) (p3 : Int32) (p4 : Int32) (p5 : Int32) (h0 : Heap) (n0 : Nat) (Z0 : n0 ≤ h0.size) :
    MetFree l (⟨"com/example/muster/muster/GameState", "withinRange", "(IIIII)Z"⟩ : MethodName) (head1 (Jvm.Cond.code (⟨"com/example/muster/muster/GameState", "withinRange", "(IIIII)Z"⟩ : MethodName) prog_18_method_18_code 7 (some .boolean) :: ws) ({ frames := 0, cells := 0, slots := 0, locals := 0 } : Room)) (fun a U => a = #[(.int p1), (.int p2), (.int p3), (.int p4), (.int p5)] ∧ Z.Warmed39 U.vm ∧ U.heap = h0) (fun _ _ _ _ _ => True) (fun _ U o U' => ∃ v L, o = .returned v ∧ Qrm2 Z p1 p2 p3 p4 p5 h0 n0 v U'.heap L ∧ FrameEnd U o U' L ({ frames := 0, cells := 0, slots := 0, locals := 0 } : Room).cells ({ frames := 0, cells := 0, slots := 0, locals := 0 } : Room).slots) := by
  refine MetFree.of_bodySF (plainFor_of_name pn_0) hisR ?_
  intro p e s m args below meth c s₁ Bd hml0 hP hK
  obtain ⟨rfl, hZ, hh⟩ := hP
  have hx := Bd.exec
  have hby := Bd.bytes
  have hml : c.maxLocals = 7 := hml0
  have hown : s.vm.findClass "com/example/muster/muster/GameState" = some m.cls := findClass_of_methodNamed Bd.named
  have hnm := (name_of_methodNamed Bd.named Bd.method).1
  have X0 : Stand p l e ({ frames := 0, cells := 0, slots := 0, locals := 0 } : Room) s m #[(.int p1), (.int p2), (.int p3), (.int p4), (.int p5)] below meth c s₁ [] 0 0 := Stand.of_body Bd
  have e0 : s₁.heap = h0 := by rw [← hh, Bd.state]; rfl
  have N0 := Fr.nil n0
  have pre0 : ∀ t_, Steps p.tables e below (s₁.setTop (mkF m 0 #[.val (.int p1), .val (.int p2), .val (.int p3), .val (.int p4), .val (.int p5), .unset, .unset] [])) t_ → Steps p.tables e below (s₁.setTop (entryFrame m #[(.int p1), (.int p2), (.int p3), (.int p4), (.int p5)] 7)) t_ := fun t_ k_ => castTop (ef_rm2 m p1 p2 p3 p4 p5) k_
  have pre101 : ∀ t_, Steps p.tables e below (s₁.setTop (mkF m 26 #[.val (.int p1), .val (.int p2), .val (.int p3), .val (.int p4), .val (.int p5), .val (.int (p3 - p1)), .val (.int (p4 - p2))] [(.int (p5 * p5)), (.int (((p3 - p1) * (p3 - p1)) + ((p4 - p2) * (p4 - p2))))])) t_ → Steps p.tables e below (s₁.setTop (entryFrame m #[(.int p1), (.int p2), (.int p3), (.int p4), (.int p5)] 7)) t_ := fun t_ k_ => pre0 _ (by
    show Steps p.tables e below (s₁.setTop (mkF m 0 #[.val (.int p1), .val (.int p2), .val (.int p3), .val (.int p4), .val (.int p5), .unset, .unset] [])) _
    refine XS.iloadN X0.here hx rfl (hb hby d2_0) rfl ?_
    show Steps p.tables e below (s₁.setTop (mkF m 1 #[.val (.int p1), .val (.int p2), .val (.int p3), .val (.int p4), .val (.int p5), .unset, .unset] [(.int p3)])) _
    refine XS.iloadN X0.here hx rfl (hb hby d2_1) rfl ?_
    show Steps p.tables e below (s₁.setTop (mkF m 2 #[.val (.int p1), .val (.int p2), .val (.int p3), .val (.int p4), .val (.int p5), .unset, .unset] [(.int p1), (.int p3)])) _
    refine XS.isub X0.here hx rfl (hb hby d2_2) rfl ?_
    show Steps p.tables e below (s₁.setTop (mkF m 3 #[.val (.int p1), .val (.int p2), .val (.int p3), .val (.int p4), .val (.int p5), .unset, .unset] [(.int (p3 - p1))])) _
    refine XS.istore X0.here hx rfl (hb hby d2_3) rfl (l' := #[.val (.int p1), .val (.int p2), .val (.int p3), .val (.int p4), .val (.int p5), .val (.int (p3 - p1)), .unset]) rfl ?_
    show Steps p.tables e below (s₁.setTop (mkF m 5 #[.val (.int p1), .val (.int p2), .val (.int p3), .val (.int p4), .val (.int p5), .val (.int (p3 - p1)), .unset] [])) _
    refine XS.iloadN X0.here hx rfl (hb hby d2_5) rfl ?_
    show Steps p.tables e below (s₁.setTop (mkF m 6 #[.val (.int p1), .val (.int p2), .val (.int p3), .val (.int p4), .val (.int p5), .val (.int (p3 - p1)), .unset] [(.int p4)])) _
    refine XS.iloadN X0.here hx rfl (hb hby d2_6) rfl ?_
    show Steps p.tables e below (s₁.setTop (mkF m 7 #[.val (.int p1), .val (.int p2), .val (.int p3), .val (.int p4), .val (.int p5), .val (.int (p3 - p1)), .unset] [(.int p2), (.int p4)])) _
    refine XS.isub X0.here hx rfl (hb hby d2_7) rfl ?_
    show Steps p.tables e below (s₁.setTop (mkF m 8 #[.val (.int p1), .val (.int p2), .val (.int p3), .val (.int p4), .val (.int p5), .val (.int (p3 - p1)), .unset] [(.int (p4 - p2))])) _
    refine XS.istore X0.here hx rfl (hb hby d2_8) rfl (l' := #[.val (.int p1), .val (.int p2), .val (.int p3), .val (.int p4), .val (.int p5), .val (.int (p3 - p1)), .val (.int (p4 - p2))]) rfl ?_
    show Steps p.tables e below (s₁.setTop (mkF m 10 #[.val (.int p1), .val (.int p2), .val (.int p3), .val (.int p4), .val (.int p5), .val (.int (p3 - p1)), .val (.int (p4 - p2))] [])) _
    refine XS.iload X0.here hx rfl (hb hby d2_10) rfl ?_
    show Steps p.tables e below (s₁.setTop (mkF m 12 #[.val (.int p1), .val (.int p2), .val (.int p3), .val (.int p4), .val (.int p5), .val (.int (p3 - p1)), .val (.int (p4 - p2))] [(.int (p3 - p1))])) _
    refine XS.iload X0.here hx rfl (hb hby d2_12) rfl ?_
    show Steps p.tables e below (s₁.setTop (mkF m 14 #[.val (.int p1), .val (.int p2), .val (.int p3), .val (.int p4), .val (.int p5), .val (.int (p3 - p1)), .val (.int (p4 - p2))] [(.int (p3 - p1)), (.int (p3 - p1))])) _
    refine XS.imul X0.here hx rfl (hb hby d2_14) rfl ?_
    show Steps p.tables e below (s₁.setTop (mkF m 15 #[.val (.int p1), .val (.int p2), .val (.int p3), .val (.int p4), .val (.int p5), .val (.int (p3 - p1)), .val (.int (p4 - p2))] [(.int ((p3 - p1) * (p3 - p1)))])) _
    refine XS.iload X0.here hx rfl (hb hby d2_15) rfl ?_
    show Steps p.tables e below (s₁.setTop (mkF m 17 #[.val (.int p1), .val (.int p2), .val (.int p3), .val (.int p4), .val (.int p5), .val (.int (p3 - p1)), .val (.int (p4 - p2))] [(.int (p4 - p2)), (.int ((p3 - p1) * (p3 - p1)))])) _
    refine XS.iload X0.here hx rfl (hb hby d2_17) rfl ?_
    show Steps p.tables e below (s₁.setTop (mkF m 19 #[.val (.int p1), .val (.int p2), .val (.int p3), .val (.int p4), .val (.int p5), .val (.int (p3 - p1)), .val (.int (p4 - p2))] [(.int (p4 - p2)), (.int (p4 - p2)), (.int ((p3 - p1) * (p3 - p1)))])) _
    refine XS.imul X0.here hx rfl (hb hby d2_19) rfl ?_
    show Steps p.tables e below (s₁.setTop (mkF m 20 #[.val (.int p1), .val (.int p2), .val (.int p3), .val (.int p4), .val (.int p5), .val (.int (p3 - p1)), .val (.int (p4 - p2))] [(.int ((p4 - p2) * (p4 - p2))), (.int ((p3 - p1) * (p3 - p1)))])) _
    refine XS.iadd X0.here hx rfl (hb hby d2_20) rfl ?_
    show Steps p.tables e below (s₁.setTop (mkF m 21 #[.val (.int p1), .val (.int p2), .val (.int p3), .val (.int p4), .val (.int p5), .val (.int (p3 - p1)), .val (.int (p4 - p2))] [(.int (((p3 - p1) * (p3 - p1)) + ((p4 - p2) * (p4 - p2))))])) _
    refine XS.iload X0.here hx rfl (hb hby d2_21) rfl ?_
    show Steps p.tables e below (s₁.setTop (mkF m 23 #[.val (.int p1), .val (.int p2), .val (.int p3), .val (.int p4), .val (.int p5), .val (.int (p3 - p1)), .val (.int (p4 - p2))] [(.int p5), (.int (((p3 - p1) * (p3 - p1)) + ((p4 - p2) * (p4 - p2))))])) _
    refine XS.iload X0.here hx rfl (hb hby d2_23) rfl ?_
    show Steps p.tables e below (s₁.setTop (mkF m 25 #[.val (.int p1), .val (.int p2), .val (.int p3), .val (.int p4), .val (.int p5), .val (.int (p3 - p1)), .val (.int (p4 - p2))] [(.int p5), (.int p5), (.int (((p3 - p1) * (p3 - p1)) + ((p4 - p2) * (p4 - p2))))])) _
    refine XS.imul X0.here hx rfl (hb hby d2_25) rfl ?_
    exact k_)
  by_cases hc : (p5 * p5) < (((p3 - p1) * (p3 - p1)) + ((p4 - p2) * (p4 - p2)))
  · skip
    have pre102 : ∀ t_, Steps p.tables e below (s₁.setTop (mkF m 34 #[.val (.int p1), .val (.int p2), .val (.int p3), .val (.int p4), .val (.int p5), .val (.int (p3 - p1)), .val (.int (p4 - p2))] [(.int (0 : Int32))])) t_ → Steps p.tables e below (s₁.setTop (entryFrame m #[(.int p1), (.int p2), (.int p3), (.int p4), (.int p5)] 7)) t_ := fun t_ k_ => pre101 _ (by
      show Steps p.tables e below (s₁.setTop (mkF m 26 #[.val (.int p1), .val (.int p2), .val (.int p3), .val (.int p4), .val (.int p5), .val (.int (p3 - p1)), .val (.int (p4 - p2))] [(.int (p5 * p5)), (.int (((p3 - p1) * (p3 - p1)) + ((p4 - p2) * (p4 - p2))))])) _
      refine XS.icmpYes X0.here hx rfl (pc0 := 26) (pc' := 33) rfl (hb hby d2_26) rfl (tlt hc).2.2.1 (by decide) (by decide) ?_
      show Steps p.tables e below (s₁.setTop (mkF m 33 #[.val (.int p1), .val (.int p2), .val (.int p3), .val (.int p4), .val (.int p5), .val (.int (p3 - p1)), .val (.int (p4 - p2))] [])) _
      refine XS.iconst X0.here hx rfl (hb hby d2_33) ?_
      exact k_)
    obtain ⟨fs, hr, hrun, hended, hW, hsame⟩ := X0.leave (v := some (.int (0 : Int32))) (fun h => by rw [Bd.returns] at h; cases h)
    refine ⟨_, _, pre102 _ ?_, hrun, hended, _, _, rfl, ?_, ⟨_, rfl⟩, hW, hsame.mono (by decide) (by decide)⟩
    · show Steps p.tables e below (s₁.setTop (mkF m 34 #[.val (.int p1), .val (.int p2), .val (.int p3), .val (.int p4), .val (.int p5), .val (.int (p3 - p1)), .val (.int (p4 - p2))] [(.int (0 : Int32))])) _
      exact retN X0 hx (t := .boolean) Bd.returns (by simp) (hb hby d2_34) hr
    · show Qrm2 Z p1 p2 p3 p4 p5 h0 n0 _ s₁.heap _
      rw [e0]
      exact ⟨by rw [own_wr, if_pos hc], N0, rfl⟩
  · skip
    have pre103 : ∀ t_, Steps p.tables e below (s₁.setTop (mkF m 34 #[.val (.int p1), .val (.int p2), .val (.int p3), .val (.int p4), .val (.int p5), .val (.int (p3 - p1)), .val (.int (p4 - p2))] [(.int (1 : Int32))])) t_ → Steps p.tables e below (s₁.setTop (entryFrame m #[(.int p1), (.int p2), (.int p3), (.int p4), (.int p5)] 7)) t_ := fun t_ k_ => pre101 _ (by
      show Steps p.tables e below (s₁.setTop (mkF m 26 #[.val (.int p1), .val (.int p2), .val (.int p3), .val (.int p4), .val (.int p5), .val (.int (p3 - p1)), .val (.int (p4 - p2))] [(.int (p5 * p5)), (.int (((p3 - p1) * (p3 - p1)) + ((p4 - p2) * (p4 - p2))))])) _
      refine XS.icmpNo X0.here hx rfl (hb hby d2_26) rfl (flt hc).2.2.1 ?_
      show Steps p.tables e below (s₁.setTop (mkF m 29 #[.val (.int p1), .val (.int p2), .val (.int p3), .val (.int p4), .val (.int p5), .val (.int (p3 - p1)), .val (.int (p4 - p2))] [])) _
      refine XS.iconst X0.here hx rfl (hb hby d2_29) ?_
      show Steps p.tables e below (s₁.setTop (mkF m 30 #[.val (.int p1), .val (.int p2), .val (.int p3), .val (.int p4), .val (.int p5), .val (.int (p3 - p1)), .val (.int (p4 - p2))] [(.int (1 : Int32))])) _
      refine XS.goto X0.here hx rfl (pc0 := 30) (pc' := 34) rfl (hb hby d2_30) (by decide) (by decide) ?_
      exact k_)
    obtain ⟨fs, hr, hrun, hended, hW, hsame⟩ := X0.leave (v := some (.int (1 : Int32))) (fun h => by rw [Bd.returns] at h; cases h)
    refine ⟨_, _, pre103 _ ?_, hrun, hended, _, _, rfl, ?_, ⟨_, rfl⟩, hW, hsame.mono (by decide) (by decide)⟩
    · show Steps p.tables e below (s₁.setTop (mkF m 34 #[.val (.int p1), .val (.int p2), .val (.int p3), .val (.int p4), .val (.int p5), .val (.int (p3 - p1)), .val (.int (p4 - p2))] [(.int (1 : Int32))])) _
      exact retN X0 hx (t := .boolean) Bd.returns (by simp) (hb hby d2_34) hr
    · show Qrm2 Z p1 p2 p3 p4 p5 h0 n0 _ s₁.heap _
      rw [e0]
      exact ⟨by rw [own_wr, if_neg hc], N0, rfl⟩
theorem pd_0 : parseMethodDescriptor "(J)J" = some ⟨[.long], some .long⟩ := by decide +kernel
theorem pd_1 : parseMethodDescriptor "(IIIII)Z" = some ⟨[.int, .int, .int, .int, .int], some .boolean⟩ := by decide +kernel
theorem pn_1 : plainName "com/example/muster/muster/GameStateWithinRangePinLaw" = true := by first | (simp [plainName, overriddenIn]; done) | decide +kernel
theorem ef_rm0 (m : MethodId) (x0 : Int32) (x1 : Int32) (x2 : Int32) (x3 : Int32) (x4 : Int32) : entryFrame m #[(.int x0), (.int x1), (.int x2), (.int x3), (.int x4)] maxLocals = mkF m 0 #[.val (.int x0), .val (.int x1), .val (.int x2), .val (.int x3), .val (.int x4), .unset, .unset, .unset, .unset, .unset, .unset, .unset, .unset, .unset, .unset, .unset, .unset, .unset, .unset] [] := by first | (simp [entryFrame, mkF, argsToLocals, Value.category, maxLocals]; done) | rfl
def Qrm0 (Z : State) (p1 : Int32) (p2 : Int32) (p3 : Int32) (p4 : Int32) (p5 : Int32) (h0 : Heap) (n0 : Nat) (v : Option Value) (h : Heap) (L : List Loc) : Prop := v = some (.int 1) ∧ Fr n0 L
set_option maxRecDepth 65536 in
set_option maxHeartbeats 40000000 in
theorem rm0 (l : Launch) (Z : State) (a0 : Array Value) (hw : ∀ d ∈ tables_1, d.before a0 Z = true) (ws : List Jvm.Cond) (p1 : Int32) (p2 : Int32) (p3 : Int32) (p4 : Int32) (p5 : Int32) (h0 : Heap) (n0 : Nat) (Z0 : n0 ≤ h0.size) :
    MetFree l x (head1 (Jvm.Cond.code x code maxLocals ret :: ws) room_1) (fun a U => a = #[(.int p1), (.int p2), (.int p3), (.int p4), (.int p5)] ∧ Z.Warmed39 U.vm ∧ U.heap = h0) (fun _ _ _ _ _ => True) (fun _ U o U' => ∃ v L, o = .returned v ∧ Qrm0 Z p1 p2 p3 p4 p5 h0 n0 v U'.heap L ∧ FrameEnd U o U' L room_1.cells room_1.slots) := by
  refine MetFree.of_bodySF (plainFor_of_name pn_1) hisR ?_
  intro p e s m args below meth c s₁ Bd hml0 hP hK
  obtain ⟨rfl, hZ, hh⟩ := hP
  have hx := Bd.exec
  have hby := Bd.bytes
  have hml : c.maxLocals = 19 := hml0
  have hown : s.vm.findClass "com/example/muster/muster/GameStateWithinRangePinLaw" = some m.cls := findClass_of_methodNamed Bd.named
  have hnm := (name_of_methodNamed Bd.named Bd.method).1
  have X0 : Stand p l e room_1 s m #[(.int p1), (.int p2), (.int p3), (.int p4), (.int p5)] below meth c s₁ [] 0 0 := Stand.of_body Bd
  have e0 : s₁.heap = h0 := by rw [← hh, Bd.state]; rfl
  have N0 := Fr.nil n0
  have pre0 : ∀ t_, Steps p.tables e below (s₁.setTop (mkF m 0 #[.val (.int p1), .val (.int p2), .val (.int p3), .val (.int p4), .val (.int p5), .unset, .unset, .unset, .unset, .unset, .unset, .unset, .unset, .unset, .unset, .unset, .unset, .unset, .unset] [])) t_ → Steps p.tables e below (s₁.setTop (entryFrame m #[(.int p1), (.int p2), (.int p3), (.int p4), (.int p5)] maxLocals)) t_ := fun t_ k_ => castTop (ef_rm0 m p1 p2 p3 p4 p5) k_
  obtain ⟨x1, hv_x1, pre101⟩ : ∃ z_ : Int32, z_ = (p1 &&& (127 : Int32)) ∧ ∀ t_, Steps p.tables e below (s₁.setTop (mkF m 32 #[.val (.int p1), .val (.int p2), .val (.int p3), .val (.int p4), .val (.int p5), .val (.int z_), .val (.int (p2 &&& (127 : Int32))), .val (.int (p3 &&& (127 : Int32))), .val (.int (p4 &&& (127 : Int32))), .val (.int (p5 &&& (255 : Int32))), .unset, .unset, .unset, .unset, .unset, .unset, .unset, .unset, .unset] [])) t_ → Steps p.tables e below (s₁.setTop (entryFrame m #[(.int p1), (.int p2), (.int p3), (.int p4), (.int p5)] maxLocals)) t_ := ⟨_, rfl, fun t_ k_ => pre0 _ (by
    show Steps p.tables e below (s₁.setTop (mkF m 0 #[.val (.int p1), .val (.int p2), .val (.int p3), .val (.int p4), .val (.int p5), .unset, .unset, .unset, .unset, .unset, .unset, .unset, .unset, .unset, .unset, .unset, .unset, .unset, .unset] [])) _
    refine XS.iloadN X0.here hx rfl (hb hby at_0) rfl ?_
    show Steps p.tables e below (s₁.setTop (mkF m 1 #[.val (.int p1), .val (.int p2), .val (.int p3), .val (.int p4), .val (.int p5), .unset, .unset, .unset, .unset, .unset, .unset, .unset, .unset, .unset, .unset, .unset, .unset, .unset, .unset] [(.int p1)])) _
    refine XS.bipush X0.here hx rfl (hb hby at_1) ?_
    show Steps p.tables e below (s₁.setTop (mkF m 3 #[.val (.int p1), .val (.int p2), .val (.int p3), .val (.int p4), .val (.int p5), .unset, .unset, .unset, .unset, .unset, .unset, .unset, .unset, .unset, .unset, .unset, .unset, .unset, .unset] [(.int (127 : Int32)), (.int p1)])) _
    refine XS.iand X0.here hx rfl (hb hby at_3) rfl ?_
    show Steps p.tables e below (s₁.setTop (mkF m 4 #[.val (.int p1), .val (.int p2), .val (.int p3), .val (.int p4), .val (.int p5), .unset, .unset, .unset, .unset, .unset, .unset, .unset, .unset, .unset, .unset, .unset, .unset, .unset, .unset] [(.int (p1 &&& (127 : Int32)))])) _
    refine XS.istore X0.here hx rfl (hb hby at_4) rfl (l' := #[.val (.int p1), .val (.int p2), .val (.int p3), .val (.int p4), .val (.int p5), .val (.int (p1 &&& (127 : Int32))), .unset, .unset, .unset, .unset, .unset, .unset, .unset, .unset, .unset, .unset, .unset, .unset, .unset]) rfl ?_
    show Steps p.tables e below (s₁.setTop (mkF m 6 #[.val (.int p1), .val (.int p2), .val (.int p3), .val (.int p4), .val (.int p5), .val (.int (p1 &&& (127 : Int32))), .unset, .unset, .unset, .unset, .unset, .unset, .unset, .unset, .unset, .unset, .unset, .unset, .unset] [])) _
    refine XS.iloadN X0.here hx rfl (hb hby at_6) rfl ?_
    show Steps p.tables e below (s₁.setTop (mkF m 7 #[.val (.int p1), .val (.int p2), .val (.int p3), .val (.int p4), .val (.int p5), .val (.int (p1 &&& (127 : Int32))), .unset, .unset, .unset, .unset, .unset, .unset, .unset, .unset, .unset, .unset, .unset, .unset, .unset] [(.int p2)])) _
    refine XS.bipush X0.here hx rfl (hb hby at_7) ?_
    show Steps p.tables e below (s₁.setTop (mkF m 9 #[.val (.int p1), .val (.int p2), .val (.int p3), .val (.int p4), .val (.int p5), .val (.int (p1 &&& (127 : Int32))), .unset, .unset, .unset, .unset, .unset, .unset, .unset, .unset, .unset, .unset, .unset, .unset, .unset] [(.int (127 : Int32)), (.int p2)])) _
    refine XS.iand X0.here hx rfl (hb hby at_9) rfl ?_
    show Steps p.tables e below (s₁.setTop (mkF m 10 #[.val (.int p1), .val (.int p2), .val (.int p3), .val (.int p4), .val (.int p5), .val (.int (p1 &&& (127 : Int32))), .unset, .unset, .unset, .unset, .unset, .unset, .unset, .unset, .unset, .unset, .unset, .unset, .unset] [(.int (p2 &&& (127 : Int32)))])) _
    refine XS.istore X0.here hx rfl (hb hby at_10) rfl (l' := #[.val (.int p1), .val (.int p2), .val (.int p3), .val (.int p4), .val (.int p5), .val (.int (p1 &&& (127 : Int32))), .val (.int (p2 &&& (127 : Int32))), .unset, .unset, .unset, .unset, .unset, .unset, .unset, .unset, .unset, .unset, .unset, .unset]) rfl ?_
    show Steps p.tables e below (s₁.setTop (mkF m 12 #[.val (.int p1), .val (.int p2), .val (.int p3), .val (.int p4), .val (.int p5), .val (.int (p1 &&& (127 : Int32))), .val (.int (p2 &&& (127 : Int32))), .unset, .unset, .unset, .unset, .unset, .unset, .unset, .unset, .unset, .unset, .unset, .unset] [])) _
    refine XS.iloadN X0.here hx rfl (hb hby at_12) rfl ?_
    show Steps p.tables e below (s₁.setTop (mkF m 13 #[.val (.int p1), .val (.int p2), .val (.int p3), .val (.int p4), .val (.int p5), .val (.int (p1 &&& (127 : Int32))), .val (.int (p2 &&& (127 : Int32))), .unset, .unset, .unset, .unset, .unset, .unset, .unset, .unset, .unset, .unset, .unset, .unset] [(.int p3)])) _
    refine XS.bipush X0.here hx rfl (hb hby at_13) ?_
    show Steps p.tables e below (s₁.setTop (mkF m 15 #[.val (.int p1), .val (.int p2), .val (.int p3), .val (.int p4), .val (.int p5), .val (.int (p1 &&& (127 : Int32))), .val (.int (p2 &&& (127 : Int32))), .unset, .unset, .unset, .unset, .unset, .unset, .unset, .unset, .unset, .unset, .unset, .unset] [(.int (127 : Int32)), (.int p3)])) _
    refine XS.iand X0.here hx rfl (hb hby at_15) rfl ?_
    show Steps p.tables e below (s₁.setTop (mkF m 16 #[.val (.int p1), .val (.int p2), .val (.int p3), .val (.int p4), .val (.int p5), .val (.int (p1 &&& (127 : Int32))), .val (.int (p2 &&& (127 : Int32))), .unset, .unset, .unset, .unset, .unset, .unset, .unset, .unset, .unset, .unset, .unset, .unset] [(.int (p3 &&& (127 : Int32)))])) _
    refine XS.istore X0.here hx rfl (hb hby at_16) rfl (l' := #[.val (.int p1), .val (.int p2), .val (.int p3), .val (.int p4), .val (.int p5), .val (.int (p1 &&& (127 : Int32))), .val (.int (p2 &&& (127 : Int32))), .val (.int (p3 &&& (127 : Int32))), .unset, .unset, .unset, .unset, .unset, .unset, .unset, .unset, .unset, .unset, .unset]) rfl ?_
    show Steps p.tables e below (s₁.setTop (mkF m 18 #[.val (.int p1), .val (.int p2), .val (.int p3), .val (.int p4), .val (.int p5), .val (.int (p1 &&& (127 : Int32))), .val (.int (p2 &&& (127 : Int32))), .val (.int (p3 &&& (127 : Int32))), .unset, .unset, .unset, .unset, .unset, .unset, .unset, .unset, .unset, .unset, .unset] [])) _
    refine XS.iloadN X0.here hx rfl (hb hby at_18) rfl ?_
    show Steps p.tables e below (s₁.setTop (mkF m 19 #[.val (.int p1), .val (.int p2), .val (.int p3), .val (.int p4), .val (.int p5), .val (.int (p1 &&& (127 : Int32))), .val (.int (p2 &&& (127 : Int32))), .val (.int (p3 &&& (127 : Int32))), .unset, .unset, .unset, .unset, .unset, .unset, .unset, .unset, .unset, .unset, .unset] [(.int p4)])) _
    refine XS.bipush X0.here hx rfl (hb hby at_19) ?_
    show Steps p.tables e below (s₁.setTop (mkF m 21 #[.val (.int p1), .val (.int p2), .val (.int p3), .val (.int p4), .val (.int p5), .val (.int (p1 &&& (127 : Int32))), .val (.int (p2 &&& (127 : Int32))), .val (.int (p3 &&& (127 : Int32))), .unset, .unset, .unset, .unset, .unset, .unset, .unset, .unset, .unset, .unset, .unset] [(.int (127 : Int32)), (.int p4)])) _
    refine XS.iand X0.here hx rfl (hb hby at_21) rfl ?_
    show Steps p.tables e below (s₁.setTop (mkF m 22 #[.val (.int p1), .val (.int p2), .val (.int p3), .val (.int p4), .val (.int p5), .val (.int (p1 &&& (127 : Int32))), .val (.int (p2 &&& (127 : Int32))), .val (.int (p3 &&& (127 : Int32))), .unset, .unset, .unset, .unset, .unset, .unset, .unset, .unset, .unset, .unset, .unset] [(.int (p4 &&& (127 : Int32)))])) _
    refine XS.istore X0.here hx rfl (hb hby at_22) rfl (l' := #[.val (.int p1), .val (.int p2), .val (.int p3), .val (.int p4), .val (.int p5), .val (.int (p1 &&& (127 : Int32))), .val (.int (p2 &&& (127 : Int32))), .val (.int (p3 &&& (127 : Int32))), .val (.int (p4 &&& (127 : Int32))), .unset, .unset, .unset, .unset, .unset, .unset, .unset, .unset, .unset, .unset]) rfl ?_
    show Steps p.tables e below (s₁.setTop (mkF m 24 #[.val (.int p1), .val (.int p2), .val (.int p3), .val (.int p4), .val (.int p5), .val (.int (p1 &&& (127 : Int32))), .val (.int (p2 &&& (127 : Int32))), .val (.int (p3 &&& (127 : Int32))), .val (.int (p4 &&& (127 : Int32))), .unset, .unset, .unset, .unset, .unset, .unset, .unset, .unset, .unset, .unset] [])) _
    refine XS.iload X0.here hx rfl (hb hby at_24) rfl ?_
    show Steps p.tables e below (s₁.setTop (mkF m 26 #[.val (.int p1), .val (.int p2), .val (.int p3), .val (.int p4), .val (.int p5), .val (.int (p1 &&& (127 : Int32))), .val (.int (p2 &&& (127 : Int32))), .val (.int (p3 &&& (127 : Int32))), .val (.int (p4 &&& (127 : Int32))), .unset, .unset, .unset, .unset, .unset, .unset, .unset, .unset, .unset, .unset] [(.int p5)])) _
    refine XS.sipush X0.here hx rfl (hb hby at_26) ?_
    show Steps p.tables e below (s₁.setTop (mkF m 29 #[.val (.int p1), .val (.int p2), .val (.int p3), .val (.int p4), .val (.int p5), .val (.int (p1 &&& (127 : Int32))), .val (.int (p2 &&& (127 : Int32))), .val (.int (p3 &&& (127 : Int32))), .val (.int (p4 &&& (127 : Int32))), .unset, .unset, .unset, .unset, .unset, .unset, .unset, .unset, .unset, .unset] [(.int (255 : Int32)), (.int p5)])) _
    refine XS.iand X0.here hx rfl (hb hby at_29) rfl ?_
    show Steps p.tables e below (s₁.setTop (mkF m 30 #[.val (.int p1), .val (.int p2), .val (.int p3), .val (.int p4), .val (.int p5), .val (.int (p1 &&& (127 : Int32))), .val (.int (p2 &&& (127 : Int32))), .val (.int (p3 &&& (127 : Int32))), .val (.int (p4 &&& (127 : Int32))), .unset, .unset, .unset, .unset, .unset, .unset, .unset, .unset, .unset, .unset] [(.int (p5 &&& (255 : Int32)))])) _
    refine XS.istore X0.here hx rfl (hb hby at_30) rfl (l' := #[.val (.int p1), .val (.int p2), .val (.int p3), .val (.int p4), .val (.int p5), .val (.int (p1 &&& (127 : Int32))), .val (.int (p2 &&& (127 : Int32))), .val (.int (p3 &&& (127 : Int32))), .val (.int (p4 &&& (127 : Int32))), .val (.int (p5 &&& (255 : Int32))), .unset, .unset, .unset, .unset, .unset, .unset, .unset, .unset, .unset]) rfl ?_
    exact k_)⟩
  obtain ⟨y1, hv_y1, pre102⟩ : ∃ z_ : Int32, z_ = (p2 &&& (127 : Int32)) ∧ ∀ t_, Steps p.tables e below (s₁.setTop (mkF m 32 #[.val (.int p1), .val (.int p2), .val (.int p3), .val (.int p4), .val (.int p5), .val (.int x1), .val (.int z_), .val (.int (p3 &&& (127 : Int32))), .val (.int (p4 &&& (127 : Int32))), .val (.int (p5 &&& (255 : Int32))), .unset, .unset, .unset, .unset, .unset, .unset, .unset, .unset, .unset] [])) t_ → Steps p.tables e below (s₁.setTop (entryFrame m #[(.int p1), (.int p2), (.int p3), (.int p4), (.int p5)] maxLocals)) t_ := ⟨_, rfl, fun t_ k_ => pre101 _ (by
    exact k_)⟩
  obtain ⟨x2, hv_x2, pre103⟩ : ∃ z_ : Int32, z_ = (p3 &&& (127 : Int32)) ∧ ∀ t_, Steps p.tables e below (s₁.setTop (mkF m 32 #[.val (.int p1), .val (.int p2), .val (.int p3), .val (.int p4), .val (.int p5), .val (.int x1), .val (.int y1), .val (.int z_), .val (.int (p4 &&& (127 : Int32))), .val (.int (p5 &&& (255 : Int32))), .unset, .unset, .unset, .unset, .unset, .unset, .unset, .unset, .unset] [])) t_ → Steps p.tables e below (s₁.setTop (entryFrame m #[(.int p1), (.int p2), (.int p3), (.int p4), (.int p5)] maxLocals)) t_ := ⟨_, rfl, fun t_ k_ => pre102 _ (by
    exact k_)⟩
  obtain ⟨y2, hv_y2, pre104⟩ : ∃ z_ : Int32, z_ = (p4 &&& (127 : Int32)) ∧ ∀ t_, Steps p.tables e below (s₁.setTop (mkF m 32 #[.val (.int p1), .val (.int p2), .val (.int p3), .val (.int p4), .val (.int p5), .val (.int x1), .val (.int y1), .val (.int x2), .val (.int z_), .val (.int (p5 &&& (255 : Int32))), .unset, .unset, .unset, .unset, .unset, .unset, .unset, .unset, .unset] [])) t_ → Steps p.tables e below (s₁.setTop (entryFrame m #[(.int p1), (.int p2), (.int p3), (.int p4), (.int p5)] maxLocals)) t_ := ⟨_, rfl, fun t_ k_ => pre103 _ (by
    exact k_)⟩
  obtain ⟨r, hv_r, pre105⟩ : ∃ z_ : Int32, z_ = (p5 &&& (255 : Int32)) ∧ ∀ t_, Steps p.tables e below (s₁.setTop (mkF m 32 #[.val (.int p1), .val (.int p2), .val (.int p3), .val (.int p4), .val (.int p5), .val (.int x1), .val (.int y1), .val (.int x2), .val (.int y2), .val (.int z_), .unset, .unset, .unset, .unset, .unset, .unset, .unset, .unset, .unset] [])) t_ → Steps p.tables e below (s₁.setTop (entryFrame m #[(.int p1), (.int p2), (.int p3), (.int p4), (.int p5)] maxLocals)) t_ := ⟨_, rfl, fun t_ k_ => pre104 _ (by
    exact k_)⟩
  obtain ⟨_, _, ⟨T106, L106, k106, n106⟩, -, X106, ⟨Lc106, hQ106, l106, y106, z106⟩, st106⟩ := Jvm.LawKit.callS X0 hx (y := (⟨"java/lang/Math", "abs", "(J)J"⟩ : MethodName)) hown (mvT hZ (hw _ (List.mem_of_getElem? (i := 0) rfl))) (mvT hZ (hw _ (List.mem_of_getElem? (i := 1) rfl))) (mvT hZ (hw _ (List.mem_of_getElem? (i := 2) rfl))) (mvT hZ (hw _ (List.mem_of_getElem? (i := 3) rfl))) (by decide) (backOf (W := 0) (rm1 l Z a0 hw [] ((x2.toInt64) - (x1.toInt64)) h0 n0 Z0 ) hZ (hw _ (List.mem_of_getElem? (i := 3) rfl)) (hw _ (List.mem_of_getElem? (i := 2) rfl)) (by decide) (by decide)) (g := (mkF m 39 #[.val (.int p1), .val (.int p2), .val (.int p3), .val (.int p4), .val (.int p5), .val (.int x1), .val (.int y1), .val (.int x2), .val (.int y2), .val (.int r), .unset, .unset, .unset, .unset, .unset, .unset, .unset, .unset, .unset] [(.long ((x2.toInt64) - (x1.toInt64)))])) rfl (by rw [hml]; rfl) (argsL := [(.long ((x2.toInt64) - (x1.toInt64)))]) (rest := []) (lenOf pd_0 rfl) rfl (by show 2 * 0 + _ ≤ _; exact Nat.le_of_eq rfl) (hb hby at_39) (fun _ _ => ⟨rfl, e0, (by decide : 0 + 0 ≤ _), (by decide : 0 + 0 ≤ _)⟩)
  dsimp only [Pt.U, Pt.locs, Pt.cells, Pt.slots] at X106 l106 y106 z106 st106 hQ106
  subst l106 y106 z106
  obtain ⟨rfl, N106q, e106⟩ := hQ106
  have N106 := Fr.app N0 N106q
  obtain ⟨dx, hv_dx, pre107⟩ : ∃ z_ : Int64, z_ = (if ((x2.toInt64) - (x1.toInt64)) < 0 then -((x2.toInt64) - (x1.toInt64)) else ((x2.toInt64) - (x1.toInt64))) ∧ ∀ t_, Steps p.tables e below (T106.setTop (mkF m 42 #[.val (.int p1), .val (.int p2), .val (.int p3), .val (.int p4), .val (.int p5), .val (.int x1), .val (.int y1), .val (.int x2), .val (.int y2), .val (.int r), .unset, .unset, .unset, .unset, .unset, .unset, .unset, .unset, .unset] [(.long z_)])) t_ → Steps p.tables e below (s₁.setTop (entryFrame m #[(.int p1), (.int p2), (.int p3), (.int p4), (.int p5)] maxLocals)) t_ := ⟨_, rfl, fun t_ k_ => pre105 _ (by
    show Steps p.tables e below (s₁.setTop (mkF m 32 #[.val (.int p1), .val (.int p2), .val (.int p3), .val (.int p4), .val (.int p5), .val (.int x1), .val (.int y1), .val (.int x2), .val (.int y2), .val (.int r), .unset, .unset, .unset, .unset, .unset, .unset, .unset, .unset, .unset] [])) _
    refine XS.iload X0.here hx rfl (hb hby at_32) rfl ?_
    show Steps p.tables e below (s₁.setTop (mkF m 34 #[.val (.int p1), .val (.int p2), .val (.int p3), .val (.int p4), .val (.int p5), .val (.int x1), .val (.int y1), .val (.int x2), .val (.int y2), .val (.int r), .unset, .unset, .unset, .unset, .unset, .unset, .unset, .unset, .unset] [(.int x2)])) _
    refine XS.i2l X0.here hx rfl (hb hby at_34) rfl ?_
    show Steps p.tables e below (s₁.setTop (mkF m 35 #[.val (.int p1), .val (.int p2), .val (.int p3), .val (.int p4), .val (.int p5), .val (.int x1), .val (.int y1), .val (.int x2), .val (.int y2), .val (.int r), .unset, .unset, .unset, .unset, .unset, .unset, .unset, .unset, .unset] [(.long (x2.toInt64))])) _
    refine XS.iload X0.here hx rfl (hb hby at_35) rfl ?_
    show Steps p.tables e below (s₁.setTop (mkF m 37 #[.val (.int p1), .val (.int p2), .val (.int p3), .val (.int p4), .val (.int p5), .val (.int x1), .val (.int y1), .val (.int x2), .val (.int y2), .val (.int r), .unset, .unset, .unset, .unset, .unset, .unset, .unset, .unset, .unset] [(.int x1), (.long (x2.toInt64))])) _
    refine XS.i2l X0.here hx rfl (hb hby at_37) rfl ?_
    show Steps p.tables e below (s₁.setTop (mkF m 38 #[.val (.int p1), .val (.int p2), .val (.int p3), .val (.int p4), .val (.int p5), .val (.int x1), .val (.int y1), .val (.int x2), .val (.int y2), .val (.int r), .unset, .unset, .unset, .unset, .unset, .unset, .unset, .unset, .unset] [(.long (x1.toInt64)), (.long (x2.toInt64))])) _
    refine XS.lsub X0.here hx rfl (hb hby at_38) rfl ?_
    show Steps p.tables e below (s₁.setTop (mkF m 39 #[.val (.int p1), .val (.int p2), .val (.int p3), .val (.int p4), .val (.int p5), .val (.int x1), .val (.int y1), .val (.int x2), .val (.int y2), .val (.int r), .unset, .unset, .unset, .unset, .unset, .unset, .unset, .unset, .unset] [(.long ((x2.toInt64) - (x1.toInt64)))])) _
    refine st106 _ ?_
    exact k_)⟩
  obtain ⟨_, _, ⟨T108, L108, k108, n108⟩, -, X108, ⟨Lc108, hQ108, l108, y108, z108⟩, st108⟩ := Jvm.LawKit.callS X106 hx (y := (⟨"java/lang/Math", "abs", "(J)J"⟩ : MethodName)) hown (mvT hZ (hw _ (List.mem_of_getElem? (i := 0) rfl))) (mvT hZ (hw _ (List.mem_of_getElem? (i := 1) rfl))) (mvT hZ (hw _ (List.mem_of_getElem? (i := 2) rfl))) (mvT hZ (hw _ (List.mem_of_getElem? (i := 3) rfl))) (by decide) (backOf (W := 0) (rm1 l Z a0 hw [] ((y2.toInt64) - (y1.toInt64)) h0 n0 Z0 ) hZ (hw _ (List.mem_of_getElem? (i := 3) rfl)) (hw _ (List.mem_of_getElem? (i := 2) rfl)) (by decide) (by decide)) (g := (mkF m 51 #[.val (.int p1), .val (.int p2), .val (.int p3), .val (.int p4), .val (.int p5), .val (.int x1), .val (.int y1), .val (.int x2), .val (.int y2), .val (.int r), .val (.long dx), .second, .unset, .unset, .unset, .unset, .unset, .unset, .unset] [(.long ((y2.toInt64) - (y1.toInt64)))])) rfl (by rw [hml]; rfl) (argsL := [(.long ((y2.toInt64) - (y1.toInt64)))]) (rest := []) (lenOf pd_0 rfl) rfl (by show 2 * 0 + _ ≤ _; exact Nat.le_of_eq rfl) (hb hby at_51) (fun _ _ => ⟨rfl, e106, (by decide : 0 + 0 ≤ _), (by decide : 0 + 0 ≤ _)⟩)
  dsimp only [Pt.U, Pt.locs, Pt.cells, Pt.slots] at X108 l108 y108 z108 st108 hQ108
  subst l108 y108 z108
  obtain ⟨rfl, N108q, e108⟩ := hQ108
  have N108 := Fr.app N106 N108q
  obtain ⟨dy, hv_dy, pre109⟩ : ∃ z_ : Int64, z_ = (if ((y2.toInt64) - (y1.toInt64)) < 0 then -((y2.toInt64) - (y1.toInt64)) else ((y2.toInt64) - (y1.toInt64))) ∧ ∀ t_, Steps p.tables e below (T108.setTop (mkF m 54 #[.val (.int p1), .val (.int p2), .val (.int p3), .val (.int p4), .val (.int p5), .val (.int x1), .val (.int y1), .val (.int x2), .val (.int y2), .val (.int r), .val (.long dx), .second, .unset, .unset, .unset, .unset, .unset, .unset, .unset] [(.long z_)])) t_ → Steps p.tables e below (s₁.setTop (entryFrame m #[(.int p1), (.int p2), (.int p3), (.int p4), (.int p5)] maxLocals)) t_ := ⟨_, rfl, fun t_ k_ => pre107 _ (by
    show Steps p.tables e below (T106.setTop (mkF m 42 #[.val (.int p1), .val (.int p2), .val (.int p3), .val (.int p4), .val (.int p5), .val (.int x1), .val (.int y1), .val (.int x2), .val (.int y2), .val (.int r), .unset, .unset, .unset, .unset, .unset, .unset, .unset, .unset, .unset] [(.long dx)])) _
    refine XS.lstore X106.here hx rfl (hb hby at_42) rfl (l' := #[.val (.int p1), .val (.int p2), .val (.int p3), .val (.int p4), .val (.int p5), .val (.int x1), .val (.int y1), .val (.int x2), .val (.int y2), .val (.int r), .val (.long dx), .second, .unset, .unset, .unset, .unset, .unset, .unset, .unset]) rfl ?_
    show Steps p.tables e below (T106.setTop (mkF m 44 #[.val (.int p1), .val (.int p2), .val (.int p3), .val (.int p4), .val (.int p5), .val (.int x1), .val (.int y1), .val (.int x2), .val (.int y2), .val (.int r), .val (.long dx), .second, .unset, .unset, .unset, .unset, .unset, .unset, .unset] [])) _
    refine XS.iload X106.here hx rfl (hb hby at_44) rfl ?_
    show Steps p.tables e below (T106.setTop (mkF m 46 #[.val (.int p1), .val (.int p2), .val (.int p3), .val (.int p4), .val (.int p5), .val (.int x1), .val (.int y1), .val (.int x2), .val (.int y2), .val (.int r), .val (.long dx), .second, .unset, .unset, .unset, .unset, .unset, .unset, .unset] [(.int y2)])) _
    refine XS.i2l X106.here hx rfl (hb hby at_46) rfl ?_
    show Steps p.tables e below (T106.setTop (mkF m 47 #[.val (.int p1), .val (.int p2), .val (.int p3), .val (.int p4), .val (.int p5), .val (.int x1), .val (.int y1), .val (.int x2), .val (.int y2), .val (.int r), .val (.long dx), .second, .unset, .unset, .unset, .unset, .unset, .unset, .unset] [(.long (y2.toInt64))])) _
    refine XS.iload X106.here hx rfl (hb hby at_47) rfl ?_
    show Steps p.tables e below (T106.setTop (mkF m 49 #[.val (.int p1), .val (.int p2), .val (.int p3), .val (.int p4), .val (.int p5), .val (.int x1), .val (.int y1), .val (.int x2), .val (.int y2), .val (.int r), .val (.long dx), .second, .unset, .unset, .unset, .unset, .unset, .unset, .unset] [(.int y1), (.long (y2.toInt64))])) _
    refine XS.i2l X106.here hx rfl (hb hby at_49) rfl ?_
    show Steps p.tables e below (T106.setTop (mkF m 50 #[.val (.int p1), .val (.int p2), .val (.int p3), .val (.int p4), .val (.int p5), .val (.int x1), .val (.int y1), .val (.int x2), .val (.int y2), .val (.int r), .val (.long dx), .second, .unset, .unset, .unset, .unset, .unset, .unset, .unset] [(.long (y1.toInt64)), (.long (y2.toInt64))])) _
    refine XS.lsub X106.here hx rfl (hb hby at_50) rfl ?_
    show Steps p.tables e below (T106.setTop (mkF m 51 #[.val (.int p1), .val (.int p2), .val (.int p3), .val (.int p4), .val (.int p5), .val (.int x1), .val (.int y1), .val (.int x2), .val (.int y2), .val (.int r), .val (.long dx), .second, .unset, .unset, .unset, .unset, .unset, .unset, .unset] [(.long ((y2.toInt64) - (y1.toInt64)))])) _
    refine st108 _ ?_
    exact k_)⟩
  obtain ⟨rr, hv_rr, pre110⟩ : ∃ z_ : Int64, z_ = (r.toInt64) ∧ ∀ t_, Steps p.tables e below (T108.setTop (mkF m 61 #[.val (.int p1), .val (.int p2), .val (.int p3), .val (.int p4), .val (.int p5), .val (.int x1), .val (.int y1), .val (.int x2), .val (.int y2), .val (.int r), .val (.long dx), .second, .val (.long dy), .second, .val (.long z_), .second, .unset, .unset, .unset] [])) t_ → Steps p.tables e below (s₁.setTop (entryFrame m #[(.int p1), (.int p2), (.int p3), (.int p4), (.int p5)] maxLocals)) t_ := ⟨_, rfl, fun t_ k_ => pre109 _ (by
    show Steps p.tables e below (T108.setTop (mkF m 54 #[.val (.int p1), .val (.int p2), .val (.int p3), .val (.int p4), .val (.int p5), .val (.int x1), .val (.int y1), .val (.int x2), .val (.int y2), .val (.int r), .val (.long dx), .second, .unset, .unset, .unset, .unset, .unset, .unset, .unset] [(.long dy)])) _
    refine XS.lstore X108.here hx rfl (hb hby at_54) rfl (l' := #[.val (.int p1), .val (.int p2), .val (.int p3), .val (.int p4), .val (.int p5), .val (.int x1), .val (.int y1), .val (.int x2), .val (.int y2), .val (.int r), .val (.long dx), .second, .val (.long dy), .second, .unset, .unset, .unset, .unset, .unset]) rfl ?_
    show Steps p.tables e below (T108.setTop (mkF m 56 #[.val (.int p1), .val (.int p2), .val (.int p3), .val (.int p4), .val (.int p5), .val (.int x1), .val (.int y1), .val (.int x2), .val (.int y2), .val (.int r), .val (.long dx), .second, .val (.long dy), .second, .unset, .unset, .unset, .unset, .unset] [])) _
    refine XS.iload X108.here hx rfl (hb hby at_56) rfl ?_
    show Steps p.tables e below (T108.setTop (mkF m 58 #[.val (.int p1), .val (.int p2), .val (.int p3), .val (.int p4), .val (.int p5), .val (.int x1), .val (.int y1), .val (.int x2), .val (.int y2), .val (.int r), .val (.long dx), .second, .val (.long dy), .second, .unset, .unset, .unset, .unset, .unset] [(.int r)])) _
    refine XS.i2l X108.here hx rfl (hb hby at_58) rfl ?_
    show Steps p.tables e below (T108.setTop (mkF m 59 #[.val (.int p1), .val (.int p2), .val (.int p3), .val (.int p4), .val (.int p5), .val (.int x1), .val (.int y1), .val (.int x2), .val (.int y2), .val (.int r), .val (.long dx), .second, .val (.long dy), .second, .unset, .unset, .unset, .unset, .unset] [(.long (r.toInt64))])) _
    refine XS.lstore X108.here hx rfl (hb hby at_59) rfl (l' := #[.val (.int p1), .val (.int p2), .val (.int p3), .val (.int p4), .val (.int p5), .val (.int x1), .val (.int y1), .val (.int x2), .val (.int y2), .val (.int r), .val (.long dx), .second, .val (.long dy), .second, .val (.long (r.toInt64)), .second, .unset, .unset, .unset]) rfl ?_
    exact k_)⟩
  refine own_j1 (A := fun G => ∀ (ex : Int32) (hex : ex = if ¬ rr < dx ∧ ¬ rr < dy ∧ ¬ rr * rr < dx * dx + dy * dy then 1 else 0) (preJ : ∀ t_, Steps p.tables e below (T108.setTop (mkF m 102 #[.val (.int p1), .val (.int p2), .val (.int p3), .val (.int p4), .val (.int p5), .val (.int x1), .val (.int y1), .val (.int x2), .val (.int y2), .val (.int r), .val (.long dx), .second, .val (.long dy), .second, .val (.long rr), .second, .unset, .unset, .unset] [(.int ex)])) t_ → Steps p.tables e below (s₁.setTop (entryFrame m #[(.int p1), (.int p2), (.int p3), (.int p4), (.int p5)] maxLocals)) t_), G) ?_ (fun J => ?_)
  · skip
    intro ex hex preJ
    obtain ⟨_, _, ⟨T111, L111, k111, n111⟩, -, X111, ⟨Lc111, hQ111, l111, y111, z111⟩, st111⟩ := Jvm.LawKit.callS X108 hx (y := (⟨"com/example/muster/muster/GameState", "withinRange", "(IIIII)Z"⟩ : MethodName)) hown (mvT hZ (hw _ (List.mem_of_getElem? (i := 4) rfl))) (mvT hZ (hw _ (List.mem_of_getElem? (i := 5) rfl))) (mvT hZ (hw _ (List.mem_of_getElem? (i := 6) rfl))) (mvT hZ (hw _ (List.mem_of_getElem? (i := 7) rfl))) (by decide) (backOf (W := 0) (rm2 l Z a0 hw [] x1 y1 x2 y2 r h0 n0 Z0 ) hZ (hw _ (List.mem_of_getElem? (i := 7) rfl)) (hw _ (List.mem_of_getElem? (i := 6) rfl)) (by decide) (by decide)) (g := (mkF m 114 #[.val (.int p1), .val (.int p2), .val (.int p3), .val (.int p4), .val (.int p5), .val (.int x1), .val (.int y1), .val (.int x2), .val (.int y2), .val (.int r), .val (.long dx), .second, .val (.long dy), .second, .val (.long rr), .second, .val (.int ex), .unset, .unset] [(.int r), (.int y2), (.int x2), (.int y1), (.int x1)])) rfl (by rw [hml]; rfl) (argsL := [(.int x1), (.int y1), (.int x2), (.int y2), (.int r)]) (rest := []) (lenOf pd_1 rfl) rfl (by show 2 * 0 + _ ≤ _; exact Nat.le_of_eq rfl) (hb hby at_114) (fun _ _ => ⟨rfl, e108, (by decide : 0 + 0 ≤ _), (by decide : 0 + 0 ≤ _)⟩)
    dsimp only [Pt.U, Pt.locs, Pt.cells, Pt.slots] at X111 l111 y111 z111 st111 hQ111
    subst l111 y111 z111
    obtain ⟨rfl, N111q, e111⟩ := hQ111
    have N111 := Fr.app N108 N111q
    obtain ⟨_, _, ⟨T112, L112, k112, n112⟩, -, X112, ⟨Lc112, hQ112, l112, y112, z112⟩, st112⟩ := Jvm.LawKit.callS X111 hx (y := (⟨"com/example/muster/muster/GameState", "withinRange", "(IIIII)Z"⟩ : MethodName)) hown (mvT hZ (hw _ (List.mem_of_getElem? (i := 4) rfl))) (mvT hZ (hw _ (List.mem_of_getElem? (i := 5) rfl))) (mvT hZ (hw _ (List.mem_of_getElem? (i := 6) rfl))) (mvT hZ (hw _ (List.mem_of_getElem? (i := 7) rfl))) (by decide) (backOf (W := 0) (rm2 l Z a0 hw [] x2 y2 x1 y1 r h0 n0 Z0 ) hZ (hw _ (List.mem_of_getElem? (i := 7) rfl)) (hw _ (List.mem_of_getElem? (i := 6) rfl)) (by decide) (by decide)) (g := (mkF m 129 #[.val (.int p1), .val (.int p2), .val (.int p3), .val (.int p4), .val (.int p5), .val (.int x1), .val (.int y1), .val (.int x2), .val (.int y2), .val (.int r), .val (.long dx), .second, .val (.long dy), .second, .val (.long rr), .second, .val (.int ex), .val (.int (own_wr x1 y1 x2 y2 r)), .unset] [(.int r), (.int y1), (.int x1), (.int y2), (.int x2)])) rfl (by rw [hml]; rfl) (argsL := [(.int x2), (.int y2), (.int x1), (.int y1), (.int r)]) (rest := []) (lenOf pd_1 rfl) rfl (by show 2 * 0 + _ ≤ _; exact Nat.le_of_eq rfl) (hb hby at_129) (fun _ _ => ⟨rfl, e111, (by decide : 0 + 0 ≤ _), (by decide : 0 + 0 ≤ _)⟩)
    dsimp only [Pt.U, Pt.locs, Pt.cells, Pt.slots] at X112 l112 y112 z112 st112 hQ112
    subst l112 y112 z112
    obtain ⟨rfl, N112q, e112⟩ := hQ112
    have N112 := Fr.app N111 N112q
    have pre113 : ∀ t_, Steps p.tables e below (T112.setTop (mkF m 138 #[.val (.int p1), .val (.int p2), .val (.int p3), .val (.int p4), .val (.int p5), .val (.int x1), .val (.int y1), .val (.int x2), .val (.int y2), .val (.int r), .val (.long dx), .second, .val (.long dy), .second, .val (.long rr), .second, .val (.int ex), .val (.int (own_wr x1 y1 x2 y2 r)), .val (.int (own_wr x2 y2 x1 y1 r))] [(.int ex), (.int (own_wr x1 y1 x2 y2 r))])) t_ → Steps p.tables e below (s₁.setTop (entryFrame m #[(.int p1), (.int p2), (.int p3), (.int p4), (.int p5)] maxLocals)) t_ := fun t_ k_ => preJ _ (by
      show Steps p.tables e below (T108.setTop (mkF m 102 #[.val (.int p1), .val (.int p2), .val (.int p3), .val (.int p4), .val (.int p5), .val (.int x1), .val (.int y1), .val (.int x2), .val (.int y2), .val (.int r), .val (.long dx), .second, .val (.long dy), .second, .val (.long rr), .second, .unset, .unset, .unset] [(.int ex)])) _
      refine XS.istore X108.here hx rfl (hb hby at_102) rfl (l' := #[.val (.int p1), .val (.int p2), .val (.int p3), .val (.int p4), .val (.int p5), .val (.int x1), .val (.int y1), .val (.int x2), .val (.int y2), .val (.int r), .val (.long dx), .second, .val (.long dy), .second, .val (.long rr), .second, .val (.int ex), .unset, .unset]) rfl ?_
      show Steps p.tables e below (T108.setTop (mkF m 104 #[.val (.int p1), .val (.int p2), .val (.int p3), .val (.int p4), .val (.int p5), .val (.int x1), .val (.int y1), .val (.int x2), .val (.int y2), .val (.int r), .val (.long dx), .second, .val (.long dy), .second, .val (.long rr), .second, .val (.int ex), .unset, .unset] [])) _
      refine XS.iload X108.here hx rfl (hb hby at_104) rfl ?_
      show Steps p.tables e below (T108.setTop (mkF m 106 #[.val (.int p1), .val (.int p2), .val (.int p3), .val (.int p4), .val (.int p5), .val (.int x1), .val (.int y1), .val (.int x2), .val (.int y2), .val (.int r), .val (.long dx), .second, .val (.long dy), .second, .val (.long rr), .second, .val (.int ex), .unset, .unset] [(.int x1)])) _
      refine XS.iload X108.here hx rfl (hb hby at_106) rfl ?_
      show Steps p.tables e below (T108.setTop (mkF m 108 #[.val (.int p1), .val (.int p2), .val (.int p3), .val (.int p4), .val (.int p5), .val (.int x1), .val (.int y1), .val (.int x2), .val (.int y2), .val (.int r), .val (.long dx), .second, .val (.long dy), .second, .val (.long rr), .second, .val (.int ex), .unset, .unset] [(.int y1), (.int x1)])) _
      refine XS.iload X108.here hx rfl (hb hby at_108) rfl ?_
      show Steps p.tables e below (T108.setTop (mkF m 110 #[.val (.int p1), .val (.int p2), .val (.int p3), .val (.int p4), .val (.int p5), .val (.int x1), .val (.int y1), .val (.int x2), .val (.int y2), .val (.int r), .val (.long dx), .second, .val (.long dy), .second, .val (.long rr), .second, .val (.int ex), .unset, .unset] [(.int x2), (.int y1), (.int x1)])) _
      refine XS.iload X108.here hx rfl (hb hby at_110) rfl ?_
      show Steps p.tables e below (T108.setTop (mkF m 112 #[.val (.int p1), .val (.int p2), .val (.int p3), .val (.int p4), .val (.int p5), .val (.int x1), .val (.int y1), .val (.int x2), .val (.int y2), .val (.int r), .val (.long dx), .second, .val (.long dy), .second, .val (.long rr), .second, .val (.int ex), .unset, .unset] [(.int y2), (.int x2), (.int y1), (.int x1)])) _
      refine XS.iload X108.here hx rfl (hb hby at_112) rfl ?_
      show Steps p.tables e below (T108.setTop (mkF m 114 #[.val (.int p1), .val (.int p2), .val (.int p3), .val (.int p4), .val (.int p5), .val (.int x1), .val (.int y1), .val (.int x2), .val (.int y2), .val (.int r), .val (.long dx), .second, .val (.long dy), .second, .val (.long rr), .second, .val (.int ex), .unset, .unset] [(.int r), (.int y2), (.int x2), (.int y1), (.int x1)])) _
      refine st111 _ ?_
      show Steps p.tables e below (T111.setTop (mkF m 117 #[.val (.int p1), .val (.int p2), .val (.int p3), .val (.int p4), .val (.int p5), .val (.int x1), .val (.int y1), .val (.int x2), .val (.int y2), .val (.int r), .val (.long dx), .second, .val (.long dy), .second, .val (.long rr), .second, .val (.int ex), .unset, .unset] [(.int (own_wr x1 y1 x2 y2 r))])) _
      refine XS.istore X111.here hx rfl (hb hby at_117) rfl (l' := #[.val (.int p1), .val (.int p2), .val (.int p3), .val (.int p4), .val (.int p5), .val (.int x1), .val (.int y1), .val (.int x2), .val (.int y2), .val (.int r), .val (.long dx), .second, .val (.long dy), .second, .val (.long rr), .second, .val (.int ex), .val (.int (own_wr x1 y1 x2 y2 r)), .unset]) rfl ?_
      show Steps p.tables e below (T111.setTop (mkF m 119 #[.val (.int p1), .val (.int p2), .val (.int p3), .val (.int p4), .val (.int p5), .val (.int x1), .val (.int y1), .val (.int x2), .val (.int y2), .val (.int r), .val (.long dx), .second, .val (.long dy), .second, .val (.long rr), .second, .val (.int ex), .val (.int (own_wr x1 y1 x2 y2 r)), .unset] [])) _
      refine XS.iload X111.here hx rfl (hb hby at_119) rfl ?_
      show Steps p.tables e below (T111.setTop (mkF m 121 #[.val (.int p1), .val (.int p2), .val (.int p3), .val (.int p4), .val (.int p5), .val (.int x1), .val (.int y1), .val (.int x2), .val (.int y2), .val (.int r), .val (.long dx), .second, .val (.long dy), .second, .val (.long rr), .second, .val (.int ex), .val (.int (own_wr x1 y1 x2 y2 r)), .unset] [(.int x2)])) _
      refine XS.iload X111.here hx rfl (hb hby at_121) rfl ?_
      show Steps p.tables e below (T111.setTop (mkF m 123 #[.val (.int p1), .val (.int p2), .val (.int p3), .val (.int p4), .val (.int p5), .val (.int x1), .val (.int y1), .val (.int x2), .val (.int y2), .val (.int r), .val (.long dx), .second, .val (.long dy), .second, .val (.long rr), .second, .val (.int ex), .val (.int (own_wr x1 y1 x2 y2 r)), .unset] [(.int y2), (.int x2)])) _
      refine XS.iload X111.here hx rfl (hb hby at_123) rfl ?_
      show Steps p.tables e below (T111.setTop (mkF m 125 #[.val (.int p1), .val (.int p2), .val (.int p3), .val (.int p4), .val (.int p5), .val (.int x1), .val (.int y1), .val (.int x2), .val (.int y2), .val (.int r), .val (.long dx), .second, .val (.long dy), .second, .val (.long rr), .second, .val (.int ex), .val (.int (own_wr x1 y1 x2 y2 r)), .unset] [(.int x1), (.int y2), (.int x2)])) _
      refine XS.iload X111.here hx rfl (hb hby at_125) rfl ?_
      show Steps p.tables e below (T111.setTop (mkF m 127 #[.val (.int p1), .val (.int p2), .val (.int p3), .val (.int p4), .val (.int p5), .val (.int x1), .val (.int y1), .val (.int x2), .val (.int y2), .val (.int r), .val (.long dx), .second, .val (.long dy), .second, .val (.long rr), .second, .val (.int ex), .val (.int (own_wr x1 y1 x2 y2 r)), .unset] [(.int y1), (.int x1), (.int y2), (.int x2)])) _
      refine XS.iload X111.here hx rfl (hb hby at_127) rfl ?_
      show Steps p.tables e below (T111.setTop (mkF m 129 #[.val (.int p1), .val (.int p2), .val (.int p3), .val (.int p4), .val (.int p5), .val (.int x1), .val (.int y1), .val (.int x2), .val (.int y2), .val (.int r), .val (.long dx), .second, .val (.long dy), .second, .val (.long rr), .second, .val (.int ex), .val (.int (own_wr x1 y1 x2 y2 r)), .unset] [(.int r), (.int y1), (.int x1), (.int y2), (.int x2)])) _
      refine st112 _ ?_
      show Steps p.tables e below (T112.setTop (mkF m 132 #[.val (.int p1), .val (.int p2), .val (.int p3), .val (.int p4), .val (.int p5), .val (.int x1), .val (.int y1), .val (.int x2), .val (.int y2), .val (.int r), .val (.long dx), .second, .val (.long dy), .second, .val (.long rr), .second, .val (.int ex), .val (.int (own_wr x1 y1 x2 y2 r)), .unset] [(.int (own_wr x2 y2 x1 y1 r))])) _
      refine XS.istore X112.here hx rfl (hb hby at_132) rfl (l' := #[.val (.int p1), .val (.int p2), .val (.int p3), .val (.int p4), .val (.int p5), .val (.int x1), .val (.int y1), .val (.int x2), .val (.int y2), .val (.int r), .val (.long dx), .second, .val (.long dy), .second, .val (.long rr), .second, .val (.int ex), .val (.int (own_wr x1 y1 x2 y2 r)), .val (.int (own_wr x2 y2 x1 y1 r))]) rfl ?_
      show Steps p.tables e below (T112.setTop (mkF m 134 #[.val (.int p1), .val (.int p2), .val (.int p3), .val (.int p4), .val (.int p5), .val (.int x1), .val (.int y1), .val (.int x2), .val (.int y2), .val (.int r), .val (.long dx), .second, .val (.long dy), .second, .val (.long rr), .second, .val (.int ex), .val (.int (own_wr x1 y1 x2 y2 r)), .val (.int (own_wr x2 y2 x1 y1 r))] [])) _
      refine XS.iload X112.here hx rfl (hb hby at_134) rfl ?_
      show Steps p.tables e below (T112.setTop (mkF m 136 #[.val (.int p1), .val (.int p2), .val (.int p3), .val (.int p4), .val (.int p5), .val (.int x1), .val (.int y1), .val (.int x2), .val (.int y2), .val (.int r), .val (.long dx), .second, .val (.long dy), .second, .val (.long rr), .second, .val (.int ex), .val (.int (own_wr x1 y1 x2 y2 r)), .val (.int (own_wr x2 y2 x1 y1 r))] [(.int (own_wr x1 y1 x2 y2 r))])) _
      refine XS.iload X112.here hx rfl (hb hby at_136) rfl ?_
      exact k_)
    have key := own_key p1 p2 p3 p4 p5 hv_x1 hv_y1 hv_x2 hv_y2 hv_r hv_dx hv_dy hv_rr hex
    have pre114 : ∀ t_, Steps p.tables e below (T112.setTop (mkF m 153 #[.val (.int p1), .val (.int p2), .val (.int p3), .val (.int p4), .val (.int p5), .val (.int x1), .val (.int y1), .val (.int x2), .val (.int y2), .val (.int r), .val (.long dx), .second, .val (.long dy), .second, .val (.long rr), .second, .val (.int ex), .val (.int (own_wr x1 y1 x2 y2 r)), .val (.int (own_wr x2 y2 x1 y1 r))] [(.int (1 : Int32))])) t_ → Steps p.tables e below (s₁.setTop (entryFrame m #[(.int p1), (.int p2), (.int p3), (.int p4), (.int p5)] maxLocals)) t_ := fun t_ k_ => pre113 _ (by
      show Steps p.tables e below (T112.setTop (mkF m 138 #[.val (.int p1), .val (.int p2), .val (.int p3), .val (.int p4), .val (.int p5), .val (.int x1), .val (.int y1), .val (.int x2), .val (.int y2), .val (.int r), .val (.long dx), .second, .val (.long dy), .second, .val (.long rr), .second, .val (.int ex), .val (.int (own_wr x1 y1 x2 y2 r)), .val (.int (own_wr x2 y2 x1 y1 r))] [(.int ex), (.int (own_wr x1 y1 x2 y2 r))])) _
      refine XS.icmpNo X112.here hx rfl (hb hby at_138) rfl (teq key.1).2 ?_
      show Steps p.tables e below (T112.setTop (mkF m 141 #[.val (.int p1), .val (.int p2), .val (.int p3), .val (.int p4), .val (.int p5), .val (.int x1), .val (.int y1), .val (.int x2), .val (.int y2), .val (.int r), .val (.long dx), .second, .val (.long dy), .second, .val (.long rr), .second, .val (.int ex), .val (.int (own_wr x1 y1 x2 y2 r)), .val (.int (own_wr x2 y2 x1 y1 r))] [])) _
      refine XS.iload X112.here hx rfl (hb hby at_141) rfl ?_
      show Steps p.tables e below (T112.setTop (mkF m 143 #[.val (.int p1), .val (.int p2), .val (.int p3), .val (.int p4), .val (.int p5), .val (.int x1), .val (.int y1), .val (.int x2), .val (.int y2), .val (.int r), .val (.long dx), .second, .val (.long dy), .second, .val (.long rr), .second, .val (.int ex), .val (.int (own_wr x1 y1 x2 y2 r)), .val (.int (own_wr x2 y2 x1 y1 r))] [(.int (own_wr x2 y2 x1 y1 r))])) _
      refine XS.iload X112.here hx rfl (hb hby at_143) rfl ?_
      show Steps p.tables e below (T112.setTop (mkF m 145 #[.val (.int p1), .val (.int p2), .val (.int p3), .val (.int p4), .val (.int p5), .val (.int x1), .val (.int y1), .val (.int x2), .val (.int y2), .val (.int r), .val (.long dx), .second, .val (.long dy), .second, .val (.long rr), .second, .val (.int ex), .val (.int (own_wr x1 y1 x2 y2 r)), .val (.int (own_wr x2 y2 x1 y1 r))] [(.int ex), (.int (own_wr x2 y2 x1 y1 r))])) _
      refine XS.icmpNo X112.here hx rfl (hb hby at_145) rfl (teq key.2).2 ?_
      show Steps p.tables e below (T112.setTop (mkF m 148 #[.val (.int p1), .val (.int p2), .val (.int p3), .val (.int p4), .val (.int p5), .val (.int x1), .val (.int y1), .val (.int x2), .val (.int y2), .val (.int r), .val (.long dx), .second, .val (.long dy), .second, .val (.long rr), .second, .val (.int ex), .val (.int (own_wr x1 y1 x2 y2 r)), .val (.int (own_wr x2 y2 x1 y1 r))] [])) _
      refine XS.iconst X112.here hx rfl (hb hby at_148) ?_
      show Steps p.tables e below (T112.setTop (mkF m 149 #[.val (.int p1), .val (.int p2), .val (.int p3), .val (.int p4), .val (.int p5), .val (.int x1), .val (.int y1), .val (.int x2), .val (.int y2), .val (.int r), .val (.long dx), .second, .val (.long dy), .second, .val (.long rr), .second, .val (.int ex), .val (.int (own_wr x1 y1 x2 y2 r)), .val (.int (own_wr x2 y2 x1 y1 r))] [(.int (1 : Int32))])) _
      refine XS.goto X112.here hx rfl (pc0 := 149) (pc' := 153) rfl (hb hby at_149) (by decide) (by decide) ?_
      exact k_)
    obtain ⟨fs, hr, hrun, hended, hW, hsame⟩ := X112.leave (v := some (.int (1 : Int32))) (fun h => by rw [Bd.returns] at h; cases h)
    refine ⟨_, _, pre114 _ ?_, hrun, hended, _, _, rfl, ?_, ⟨_, rfl⟩, hW, hsame.mono (by decide) (by decide)⟩
    · show Steps p.tables e below (T112.setTop (mkF m 153 #[.val (.int p1), .val (.int p2), .val (.int p3), .val (.int p4), .val (.int p5), .val (.int x1), .val (.int y1), .val (.int x2), .val (.int y2), .val (.int r), .val (.long dx), .second, .val (.long dy), .second, .val (.long rr), .second, .val (.int ex), .val (.int (own_wr x1 y1 x2 y2 r)), .val (.int (own_wr x2 y2 x1 y1 r))] [(.int (1 : Int32))])) _
      exact retN X112 hx (t := .boolean) Bd.returns (by simp) (hb hby at_153) hr
    · show Qrm0 Z p1 p2 p3 p4 p5 h0 n0 _ T112.heap _
      rw [e112]
      exact ⟨rfl, N112⟩
  · skip
    have pre115 : ∀ t_, Steps p.tables e below (T108.setTop (mkF m 66 #[.val (.int p1), .val (.int p2), .val (.int p3), .val (.int p4), .val (.int p5), .val (.int x1), .val (.int y1), .val (.int x2), .val (.int y2), .val (.int r), .val (.long dx), .second, .val (.long dy), .second, .val (.long rr), .second, .unset, .unset, .unset] [(.int (lcmpW dx rr))])) t_ → Steps p.tables e below (s₁.setTop (entryFrame m #[(.int p1), (.int p2), (.int p3), (.int p4), (.int p5)] maxLocals)) t_ := fun t_ k_ => pre110 _ (by
      show Steps p.tables e below (T108.setTop (mkF m 61 #[.val (.int p1), .val (.int p2), .val (.int p3), .val (.int p4), .val (.int p5), .val (.int x1), .val (.int y1), .val (.int x2), .val (.int y2), .val (.int r), .val (.long dx), .second, .val (.long dy), .second, .val (.long rr), .second, .unset, .unset, .unset] [])) _
      refine XS.lload X108.here hx rfl (hb hby at_61) rfl ?_
      show Steps p.tables e below (T108.setTop (mkF m 63 #[.val (.int p1), .val (.int p2), .val (.int p3), .val (.int p4), .val (.int p5), .val (.int x1), .val (.int y1), .val (.int x2), .val (.int y2), .val (.int r), .val (.long dx), .second, .val (.long dy), .second, .val (.long rr), .second, .unset, .unset, .unset] [(.long dx)])) _
      refine XS.lload X108.here hx rfl (hb hby at_63) rfl ?_
      show Steps p.tables e below (T108.setTop (mkF m 65 #[.val (.int p1), .val (.int p2), .val (.int p3), .val (.int p4), .val (.int p5), .val (.int x1), .val (.int y1), .val (.int x2), .val (.int y2), .val (.int r), .val (.long dx), .second, .val (.long dy), .second, .val (.long rr), .second, .unset, .unset, .unset] [(.long rr), (.long dx)])) _
      refine XS.lcmp X108.here hx rfl (hb hby at_65) rfl ?_
      exact k_)
    by_cases hc1 : rr < dx
    · skip
      have pre116 : ∀ t_, Steps p.tables e below (T108.setTop (mkF m 102 #[.val (.int p1), .val (.int p2), .val (.int p3), .val (.int p4), .val (.int p5), .val (.int x1), .val (.int y1), .val (.int x2), .val (.int y2), .val (.int r), .val (.long dx), .second, .val (.long dy), .second, .val (.long rr), .second, .unset, .unset, .unset] [(.int (0 : Int32))])) t_ → Steps p.tables e below (s₁.setTop (entryFrame m #[(.int p1), (.int p2), (.int p3), (.int p4), (.int p5)] maxLocals)) t_ := fun t_ k_ => pre115 _ (by
        show Steps p.tables e below (T108.setTop (mkF m 66 #[.val (.int p1), .val (.int p2), .val (.int p3), .val (.int p4), .val (.int p5), .val (.int x1), .val (.int y1), .val (.int x2), .val (.int y2), .val (.int r), .val (.long dx), .second, .val (.long dy), .second, .val (.long rr), .second, .unset, .unset, .unset] [(.int (lcmpW dx rr))])) _
        refine XS.ifYes X108.here hx rfl (pc0 := 66) (pc' := 101) rfl (hb hby at_66) rfl ((if0 _ _).trans (tlt ((lw_gt _ _).mpr hc1)).2.2.1) (by decide) (by decide) ?_
        show Steps p.tables e below (T108.setTop (mkF m 101 #[.val (.int p1), .val (.int p2), .val (.int p3), .val (.int p4), .val (.int p5), .val (.int x1), .val (.int y1), .val (.int x2), .val (.int y2), .val (.int r), .val (.long dx), .second, .val (.long dy), .second, .val (.long rr), .second, .unset, .unset, .unset] [])) _
        refine XS.iconst X108.here hx rfl (hb hby at_101) ?_
        exact k_)
      exact J _ (by rw [if_neg fun q => q.1 hc1]) pre116
    · skip
      have pre117 : ∀ t_, Steps p.tables e below (T108.setTop (mkF m 74 #[.val (.int p1), .val (.int p2), .val (.int p3), .val (.int p4), .val (.int p5), .val (.int x1), .val (.int y1), .val (.int x2), .val (.int y2), .val (.int r), .val (.long dx), .second, .val (.long dy), .second, .val (.long rr), .second, .unset, .unset, .unset] [(.int (lcmpW dy rr))])) t_ → Steps p.tables e below (s₁.setTop (entryFrame m #[(.int p1), (.int p2), (.int p3), (.int p4), (.int p5)] maxLocals)) t_ := fun t_ k_ => pre115 _ (by
        show Steps p.tables e below (T108.setTop (mkF m 66 #[.val (.int p1), .val (.int p2), .val (.int p3), .val (.int p4), .val (.int p5), .val (.int x1), .val (.int y1), .val (.int x2), .val (.int y2), .val (.int r), .val (.long dx), .second, .val (.long dy), .second, .val (.long rr), .second, .unset, .unset, .unset] [(.int (lcmpW dx rr))])) _
        refine XS.ifNo X108.here hx rfl (hb hby at_66) rfl ((if0 _ _).trans (flt (mt (lw_gt _ _).mp hc1)).2.2.1) ?_
        show Steps p.tables e below (T108.setTop (mkF m 69 #[.val (.int p1), .val (.int p2), .val (.int p3), .val (.int p4), .val (.int p5), .val (.int x1), .val (.int y1), .val (.int x2), .val (.int y2), .val (.int r), .val (.long dx), .second, .val (.long dy), .second, .val (.long rr), .second, .unset, .unset, .unset] [])) _
        refine XS.lload X108.here hx rfl (hb hby at_69) rfl ?_
        show Steps p.tables e below (T108.setTop (mkF m 71 #[.val (.int p1), .val (.int p2), .val (.int p3), .val (.int p4), .val (.int p5), .val (.int x1), .val (.int y1), .val (.int x2), .val (.int y2), .val (.int r), .val (.long dx), .second, .val (.long dy), .second, .val (.long rr), .second, .unset, .unset, .unset] [(.long dy)])) _
        refine XS.lload X108.here hx rfl (hb hby at_71) rfl ?_
        show Steps p.tables e below (T108.setTop (mkF m 73 #[.val (.int p1), .val (.int p2), .val (.int p3), .val (.int p4), .val (.int p5), .val (.int x1), .val (.int y1), .val (.int x2), .val (.int y2), .val (.int r), .val (.long dx), .second, .val (.long dy), .second, .val (.long rr), .second, .unset, .unset, .unset] [(.long rr), (.long dy)])) _
        refine XS.lcmp X108.here hx rfl (hb hby at_73) rfl ?_
        exact k_)
      by_cases hc2 : rr < dy
      · skip
        have pre118 : ∀ t_, Steps p.tables e below (T108.setTop (mkF m 102 #[.val (.int p1), .val (.int p2), .val (.int p3), .val (.int p4), .val (.int p5), .val (.int x1), .val (.int y1), .val (.int x2), .val (.int y2), .val (.int r), .val (.long dx), .second, .val (.long dy), .second, .val (.long rr), .second, .unset, .unset, .unset] [(.int (0 : Int32))])) t_ → Steps p.tables e below (s₁.setTop (entryFrame m #[(.int p1), (.int p2), (.int p3), (.int p4), (.int p5)] maxLocals)) t_ := fun t_ k_ => pre117 _ (by
          show Steps p.tables e below (T108.setTop (mkF m 74 #[.val (.int p1), .val (.int p2), .val (.int p3), .val (.int p4), .val (.int p5), .val (.int x1), .val (.int y1), .val (.int x2), .val (.int y2), .val (.int r), .val (.long dx), .second, .val (.long dy), .second, .val (.long rr), .second, .unset, .unset, .unset] [(.int (lcmpW dy rr))])) _
          refine XS.ifYes X108.here hx rfl (pc0 := 74) (pc' := 101) rfl (hb hby at_74) rfl ((if0 _ _).trans (tlt ((lw_gt _ _).mpr hc2)).2.2.1) (by decide) (by decide) ?_
          show Steps p.tables e below (T108.setTop (mkF m 101 #[.val (.int p1), .val (.int p2), .val (.int p3), .val (.int p4), .val (.int p5), .val (.int x1), .val (.int y1), .val (.int x2), .val (.int y2), .val (.int r), .val (.long dx), .second, .val (.long dy), .second, .val (.long rr), .second, .unset, .unset, .unset] [])) _
          refine XS.iconst X108.here hx rfl (hb hby at_101) ?_
          exact k_)
        exact J _ (by rw [if_neg fun q => q.2.1 hc2]) pre118
      · skip
        have pre119 : ∀ t_, Steps p.tables e below (T108.setTop (mkF m 94 #[.val (.int p1), .val (.int p2), .val (.int p3), .val (.int p4), .val (.int p5), .val (.int x1), .val (.int y1), .val (.int x2), .val (.int y2), .val (.int r), .val (.long dx), .second, .val (.long dy), .second, .val (.long rr), .second, .unset, .unset, .unset] [(.int (lcmpW ((dx * dx) + (dy * dy)) (rr * rr)))])) t_ → Steps p.tables e below (s₁.setTop (entryFrame m #[(.int p1), (.int p2), (.int p3), (.int p4), (.int p5)] maxLocals)) t_ := fun t_ k_ => pre117 _ (by
          show Steps p.tables e below (T108.setTop (mkF m 74 #[.val (.int p1), .val (.int p2), .val (.int p3), .val (.int p4), .val (.int p5), .val (.int x1), .val (.int y1), .val (.int x2), .val (.int y2), .val (.int r), .val (.long dx), .second, .val (.long dy), .second, .val (.long rr), .second, .unset, .unset, .unset] [(.int (lcmpW dy rr))])) _
          refine XS.ifNo X108.here hx rfl (hb hby at_74) rfl ((if0 _ _).trans (flt (mt (lw_gt _ _).mp hc2)).2.2.1) ?_
          show Steps p.tables e below (T108.setTop (mkF m 77 #[.val (.int p1), .val (.int p2), .val (.int p3), .val (.int p4), .val (.int p5), .val (.int x1), .val (.int y1), .val (.int x2), .val (.int y2), .val (.int r), .val (.long dx), .second, .val (.long dy), .second, .val (.long rr), .second, .unset, .unset, .unset] [])) _
          refine XS.lload X108.here hx rfl (hb hby at_77) rfl ?_
          show Steps p.tables e below (T108.setTop (mkF m 79 #[.val (.int p1), .val (.int p2), .val (.int p3), .val (.int p4), .val (.int p5), .val (.int x1), .val (.int y1), .val (.int x2), .val (.int y2), .val (.int r), .val (.long dx), .second, .val (.long dy), .second, .val (.long rr), .second, .unset, .unset, .unset] [(.long dx)])) _
          refine XS.lload X108.here hx rfl (hb hby at_79) rfl ?_
          show Steps p.tables e below (T108.setTop (mkF m 81 #[.val (.int p1), .val (.int p2), .val (.int p3), .val (.int p4), .val (.int p5), .val (.int x1), .val (.int y1), .val (.int x2), .val (.int y2), .val (.int r), .val (.long dx), .second, .val (.long dy), .second, .val (.long rr), .second, .unset, .unset, .unset] [(.long dx), (.long dx)])) _
          refine XS.lmul X108.here hx rfl (hb hby at_81) rfl ?_
          show Steps p.tables e below (T108.setTop (mkF m 82 #[.val (.int p1), .val (.int p2), .val (.int p3), .val (.int p4), .val (.int p5), .val (.int x1), .val (.int y1), .val (.int x2), .val (.int y2), .val (.int r), .val (.long dx), .second, .val (.long dy), .second, .val (.long rr), .second, .unset, .unset, .unset] [(.long (dx * dx))])) _
          refine XS.lload X108.here hx rfl (hb hby at_82) rfl ?_
          show Steps p.tables e below (T108.setTop (mkF m 84 #[.val (.int p1), .val (.int p2), .val (.int p3), .val (.int p4), .val (.int p5), .val (.int x1), .val (.int y1), .val (.int x2), .val (.int y2), .val (.int r), .val (.long dx), .second, .val (.long dy), .second, .val (.long rr), .second, .unset, .unset, .unset] [(.long dy), (.long (dx * dx))])) _
          refine XS.lload X108.here hx rfl (hb hby at_84) rfl ?_
          show Steps p.tables e below (T108.setTop (mkF m 86 #[.val (.int p1), .val (.int p2), .val (.int p3), .val (.int p4), .val (.int p5), .val (.int x1), .val (.int y1), .val (.int x2), .val (.int y2), .val (.int r), .val (.long dx), .second, .val (.long dy), .second, .val (.long rr), .second, .unset, .unset, .unset] [(.long dy), (.long dy), (.long (dx * dx))])) _
          refine XS.lmul X108.here hx rfl (hb hby at_86) rfl ?_
          show Steps p.tables e below (T108.setTop (mkF m 87 #[.val (.int p1), .val (.int p2), .val (.int p3), .val (.int p4), .val (.int p5), .val (.int x1), .val (.int y1), .val (.int x2), .val (.int y2), .val (.int r), .val (.long dx), .second, .val (.long dy), .second, .val (.long rr), .second, .unset, .unset, .unset] [(.long (dy * dy)), (.long (dx * dx))])) _
          refine XS.ladd X108.here hx rfl (hb hby at_87) rfl ?_
          show Steps p.tables e below (T108.setTop (mkF m 88 #[.val (.int p1), .val (.int p2), .val (.int p3), .val (.int p4), .val (.int p5), .val (.int x1), .val (.int y1), .val (.int x2), .val (.int y2), .val (.int r), .val (.long dx), .second, .val (.long dy), .second, .val (.long rr), .second, .unset, .unset, .unset] [(.long ((dx * dx) + (dy * dy)))])) _
          refine XS.lload X108.here hx rfl (hb hby at_88) rfl ?_
          show Steps p.tables e below (T108.setTop (mkF m 90 #[.val (.int p1), .val (.int p2), .val (.int p3), .val (.int p4), .val (.int p5), .val (.int x1), .val (.int y1), .val (.int x2), .val (.int y2), .val (.int r), .val (.long dx), .second, .val (.long dy), .second, .val (.long rr), .second, .unset, .unset, .unset] [(.long rr), (.long ((dx * dx) + (dy * dy)))])) _
          refine XS.lload X108.here hx rfl (hb hby at_90) rfl ?_
          show Steps p.tables e below (T108.setTop (mkF m 92 #[.val (.int p1), .val (.int p2), .val (.int p3), .val (.int p4), .val (.int p5), .val (.int x1), .val (.int y1), .val (.int x2), .val (.int y2), .val (.int r), .val (.long dx), .second, .val (.long dy), .second, .val (.long rr), .second, .unset, .unset, .unset] [(.long rr), (.long rr), (.long ((dx * dx) + (dy * dy)))])) _
          refine XS.lmul X108.here hx rfl (hb hby at_92) rfl ?_
          show Steps p.tables e below (T108.setTop (mkF m 93 #[.val (.int p1), .val (.int p2), .val (.int p3), .val (.int p4), .val (.int p5), .val (.int x1), .val (.int y1), .val (.int x2), .val (.int y2), .val (.int r), .val (.long dx), .second, .val (.long dy), .second, .val (.long rr), .second, .unset, .unset, .unset] [(.long (rr * rr)), (.long ((dx * dx) + (dy * dy)))])) _
          refine XS.lcmp X108.here hx rfl (hb hby at_93) rfl ?_
          exact k_)
        by_cases hc3 : (rr * rr) < ((dx * dx) + (dy * dy))
        · skip
          have pre120 : ∀ t_, Steps p.tables e below (T108.setTop (mkF m 102 #[.val (.int p1), .val (.int p2), .val (.int p3), .val (.int p4), .val (.int p5), .val (.int x1), .val (.int y1), .val (.int x2), .val (.int y2), .val (.int r), .val (.long dx), .second, .val (.long dy), .second, .val (.long rr), .second, .unset, .unset, .unset] [(.int (0 : Int32))])) t_ → Steps p.tables e below (s₁.setTop (entryFrame m #[(.int p1), (.int p2), (.int p3), (.int p4), (.int p5)] maxLocals)) t_ := fun t_ k_ => pre119 _ (by
            show Steps p.tables e below (T108.setTop (mkF m 94 #[.val (.int p1), .val (.int p2), .val (.int p3), .val (.int p4), .val (.int p5), .val (.int x1), .val (.int y1), .val (.int x2), .val (.int y2), .val (.int r), .val (.long dx), .second, .val (.long dy), .second, .val (.long rr), .second, .unset, .unset, .unset] [(.int (lcmpW ((dx * dx) + (dy * dy)) (rr * rr)))])) _
            refine XS.ifYes X108.here hx rfl (pc0 := 94) (pc' := 101) rfl (hb hby at_94) rfl ((if0 _ _).trans (tlt ((lw_gt _ _).mpr hc3)).2.2.1) (by decide) (by decide) ?_
            show Steps p.tables e below (T108.setTop (mkF m 101 #[.val (.int p1), .val (.int p2), .val (.int p3), .val (.int p4), .val (.int p5), .val (.int x1), .val (.int y1), .val (.int x2), .val (.int y2), .val (.int r), .val (.long dx), .second, .val (.long dy), .second, .val (.long rr), .second, .unset, .unset, .unset] [])) _
            refine XS.iconst X108.here hx rfl (hb hby at_101) ?_
            exact k_)
          exact J _ (by rw [if_neg fun q => q.2.2 hc3]) pre120
        · skip
          have pre121 : ∀ t_, Steps p.tables e below (T108.setTop (mkF m 102 #[.val (.int p1), .val (.int p2), .val (.int p3), .val (.int p4), .val (.int p5), .val (.int x1), .val (.int y1), .val (.int x2), .val (.int y2), .val (.int r), .val (.long dx), .second, .val (.long dy), .second, .val (.long rr), .second, .unset, .unset, .unset] [(.int (1 : Int32))])) t_ → Steps p.tables e below (s₁.setTop (entryFrame m #[(.int p1), (.int p2), (.int p3), (.int p4), (.int p5)] maxLocals)) t_ := fun t_ k_ => pre119 _ (by
            show Steps p.tables e below (T108.setTop (mkF m 94 #[.val (.int p1), .val (.int p2), .val (.int p3), .val (.int p4), .val (.int p5), .val (.int x1), .val (.int y1), .val (.int x2), .val (.int y2), .val (.int r), .val (.long dx), .second, .val (.long dy), .second, .val (.long rr), .second, .unset, .unset, .unset] [(.int (lcmpW ((dx * dx) + (dy * dy)) (rr * rr)))])) _
            refine XS.ifNo X108.here hx rfl (hb hby at_94) rfl ((if0 _ _).trans (flt (mt (lw_gt _ _).mp hc3)).2.2.1) ?_
            show Steps p.tables e below (T108.setTop (mkF m 97 #[.val (.int p1), .val (.int p2), .val (.int p3), .val (.int p4), .val (.int p5), .val (.int x1), .val (.int y1), .val (.int x2), .val (.int y2), .val (.int r), .val (.long dx), .second, .val (.long dy), .second, .val (.long rr), .second, .unset, .unset, .unset] [])) _
            refine XS.iconst X108.here hx rfl (hb hby at_97) ?_
            show Steps p.tables e below (T108.setTop (mkF m 98 #[.val (.int p1), .val (.int p2), .val (.int p3), .val (.int p4), .val (.int p5), .val (.int x1), .val (.int y1), .val (.int x2), .val (.int y2), .val (.int r), .val (.long dx), .second, .val (.long dy), .second, .val (.long rr), .second, .unset, .unset, .unset] [(.int (1 : Int32))])) _
            refine XS.goto X108.here hx rfl (pc0 := 98) (pc' := 102) rfl (hb hby at_98) (by decide) (by decide) ?_
            exact k_)
          exact J _ (by rw [if_pos ⟨hc1, hc2, hc3⟩]) pre121
set_option maxRecDepth 65536 in
set_option maxHeartbeats 40000000 in
theorem comes_1 {Post : Tables → Env → Array Value → State → Outcome → State → Prop} (hpost : ∀ tb e args s v u, (limb_1_1.after args s (.returned v) u = true ∧ limb_1_2.after args s (.returned v) u = true ∧ True) → FrameEnd s (.returned v) u (Jvm.fieldLocs frame_1_writes args s ++ Jvm.arrayLocs frame_1_arrays args s ++ Jvm.staticLocs frame_1_statics s) 0 0 → Post tb e args s (.returned v) u) :
    ArmFor flags0 classFile x code maxLocals ret World_1 tables_1 room_1 Calls_1 rest_1 Pre_1 Post := by
  intro l hfl _ _ p e ha hc hk s m args below hf hA hF happ hP
  obtain ⟨hcalls, hrest, hpre⟩ := hP
  obtain ⟨-, -, -, hnamed, -, -, -, hat⟩ := (Spec.applies_iff hf).mp happ
  obtain ⟨hg, hn⟩ := and_e (Cond.before_iff.mp (show (Jvm.Cond.and given_1 narrow_1).before args s = true from hpre))
  obtain ⟨gg1, gg2⟩ := and_e hg
  obtain ⟨gg3, gg4⟩ := and_e gg2
  obtain ⟨gg5, gg6⟩ := and_e gg4
  obtain ⟨gg7, gg8⟩ := and_e gg6
  obtain ⟨gg9, gg10⟩ := and_e gg8
  obtain ⟨w0, w1, w2, w3, w4, rfl⟩ : ∃ w0 w1 w2 w3 w4 : Value, args = #[w0, w1, w2, w3, w4] := by
    have hs : args.size = 5 := by simpa [Cond.value, given_1] using gg1
    obtain ⟨L⟩ := args
    match L, hs with
    | [w0, w1, w2, w3, w4], _ => exact ⟨w0, w1, w2, w3, w4, rfl⟩
  have hw := fun d (hd : d ∈ tables_1) => atoms_spec (ws := Jvm.Cond.code x code maxLocals ret :: tables_1) hat d (List.mem_cons_of_mem _ hd)
  have hfit : Fit s := fun {y c} hc i hi => by
    obtain ⟨ha, rfl⟩ := Array.getElem?_eq_some_iff.mp hc
    have q := List.all_eq_true.mp ((Array.all_eq_true_iff_forall_mem.mp hF) _ (Array.getElem_mem ha)) i (List.mem_range.mpr hi)
    simpa [Array.getElem?_eq_getElem hi] using q
  obtain ⟨i0, ei0⟩ := is_v gg3
  obtain rfl : w0 = (.int i0) := Option.some.inj ei0
  obtain ⟨i1, ei1⟩ := is_v gg5
  obtain rfl : w1 = (.int i1) := Option.some.inj ei1
  obtain ⟨i2, ei2⟩ := is_v gg7
  obtain rfl : w2 = (.int i2) := Option.some.inj ei2
  obtain ⟨i3, ei3⟩ := is_v gg9
  obtain rfl : w3 = (.int i3) := Option.some.inj ei3
  obtain ⟨i4, ei4⟩ := is_v gg10
  obtain rfl : w4 = (.int i4) := Option.some.inj ei4
  obtain ⟨n, o, h1, h2, h3, _, L, rfl, ⟨rfl, N⟩, hq⟩ := rm0 l s _ hw tables_1 i0 i1 i2 i3 i4 s.heap s.heap.size (Nat.le_refl _)  p e ha hc hk s m _ below hf ((Spec.applies_iff_loose hf).mp happ).1 ⟨rfl, State.Warmed39.refl s, rfl⟩ trivial
  refine ⟨n, _, h1, h2, h3, hpost _ _ _ _ _ _ ⟨Cond.after_iff.mpr rfl, Cond.after_iff.mpr (eq_i res_at (Term.int_eval (1)) rfl), trivial⟩ ⟨hq.1, hq.2.1, (hq.2.2.sift fun y hy => Or.inr (N y hy)).mono (by decide) (by decide)⟩⟩
theorem main_1_1 : Claimed_1_1 := comes_1 fun _ _ _ _ _ _ h hF => ⟨h.1, hF⟩
theorem main_1_2 : Claimed_1_2 := comes_1 fun _ _ _ _ _ _ h hF => ⟨h.2.1, hF⟩
end Jvm.Pilot.@@N@@
namespace Jvm.Pilot.@@N@@
open Jvm Jvm.ClassFile Sem Op Lib Jvm.Free Jvm.Stand Jvm.Pilot.@@N@@.Jvm.D
/-! MADE BY PROGRAM (witnessworld.py) out of the Statement's table words and the real class files: 10 classes; the members and pool entries that the words name. The judged class is class 1, her method 1. -/
namespace start1
open Jvm.ClassFile
def u (s : String) : CpInfo := .utf8 (stringToUtf16 s)
/-- a pool by its gaps: so many unusable entries, then the entry; so many at the end -/
def gap : Nat → List CpInfo → List CpInfo
  | 0, r => r
  | n + 1, r => .unusable :: gap n r
def poolList (es : List (Nat × CpInfo)) (last : Nat) : List CpInfo := es.foldr (fun e r => gap e.1 (e.2 :: r)) (gap last [])
def pool (es : List (Nat × CpInfo)) (last : Nat) : Array CpInfo := ⟨poolList es last⟩
def fileOf (pool : Array CpInfo) (this : Nat) (attrs : Array Attribute := #[]) (ms : Array MethodInfo := #[]) (fl : Nat := 33) (sup : Nat := 0) (ifs : Array Nat := #[]) (fds : Array FieldInfo := #[]) : ClassFile where
  minorVersion := 0
  majorVersion := 65
  constantPool := pool
  accessFlags := fl
  thisClass := this
  superClass := sup
  interfaces := ifs
  fields := fds
  methods := ms
  attributes := attrs
def plain (name : String) (sup : Option ClassId) : Class where
  name := name
  kind := .ordinary
  loader := none
  accessFlags := 33
  super := sup
  interfaces := #[]
  cf := none
  fields := #[]
  methods := #[]
  instanceTypes := #[]
  staticTypes := #[]
  resolved := #[]
  callSites := []
  init := .initialized
  statics := none
  mirror := none

def pool0 : Array CpInfo := pool [(5, u "<init>"), (0, u "()V"), (1, .class_ 10), (1, u "java/lang/Object")] 113

def k0m0 : Method := { name := "<init>", desc := "()V", sig := { parameters := [], returnType := none }, accessFlags := 1, code := none }
/-- java/lang/Object -/
def k0 : Class := { plain "java/lang/Object" none with
  accessFlags := 33
  interfaces := #[]
  cf := some (fileOf pool0 8 #[] #[{ accessFlags := 1, nameIndex := 5, descriptorIndex := 6, attributes := #[] }] 33 0 #[] #[])
  fields := #[]
  methods := #[k0m0]
  instanceTypes := #[]
  staticTypes := #[]
  resolved := Array.replicate 124 none
  statics := none }

def pool1 : Array CpInfo := pool [(2, .class_ 4), (1, u "java/lang/Object"), (0, u "<init>"), (0, u "()V"), (0, .methodref 8 9), (0, .class_ 10), (0, .nameAndType 11 12), (0, u "java/lang/Math"), (0, u "abs"), (0, u "(J)J"), (0, .methodref 14 15), (0, .class_ 16), (0, .nameAndType 17 18), (0, u "com/example/muster/muster/GameState"), (0, u "withinRange"), (0, u "(IIIII)Z"), (0, .class_ 20), (0, u "com/example/muster/muster/GameStateWithinRangePinLaw"), (2, u "law")] 3

def k1m0 : Method := { name := "<init>", desc := "()V", sig := { parameters := [], returnType := none }, accessFlags := 1, code := none }
def k1c1 : Code := { maxStack := 6, maxLocals := 19, code := code, exceptionTable := #[], attributes := #[] }
def k1m1 : Method := { name := "law", desc := "(IIIII)Z", sig := { parameters := [.int, .int, .int, .int, .int], returnType := some .boolean }, accessFlags := 9, code := some k1c1 }
/-- com/example/muster/muster/GameStateWithinRangePinLaw -/
def k1 : Class := { plain "com/example/muster/muster/GameStateWithinRangePinLaw" (some 0) with
  accessFlags := 49
  interfaces := #[]
  cf := some (fileOf pool1 19 #[] #[{ accessFlags := 1, nameIndex := 5, descriptorIndex := 6, attributes := #[] }, { accessFlags := 9, nameIndex := 23, descriptorIndex := 18, attributes := #[] }] 49 2 #[] #[])
  fields := #[]
  methods := #[k1m0, k1m1]
  instanceTypes := #[]
  staticTypes := #[]
  resolved := Array.replicate 27 none
  statics := none }

def pool2 : Array CpInfo := pool [(1, .class_ 2), (0, u "java/lang/Math"), (1, .class_ 6), (1, u "java/lang/Object"), (0, u "<init>"), (0, u "()V"), (89, .class_ 100), (1, u "java/lang/Math$RandomNumberGeneratorHolder"), (23, u "abs"), (0, u "(J)J"), (46, u "negativeZeroFloatBits"), (0, u "J"), (2, u "negativeZeroDoubleBits"), (68, u "$assertionsDisabled"), (0, u "Z"), (91, u "twoToTheDoubleScaleDown"), (0, u "D"), (4, u "twoToTheDoubleScaleUp"), (9, u "E"), (3, u "PI"), (2, u "TAU"), (2, u "DEGREES_TO_RADIANS"), (0, u "RADIANS_TO_DEGREES")] 94

def k2m0 : Method := { name := "<init>", desc := "()V", sig := { parameters := [], returnType := none }, accessFlags := 2, code := none }
def k2c1 : Code := { maxStack := 4, maxLocals := 2, code := jdk_29_method_61_code, exceptionTable := #[], attributes := #[] }
def k2m1 : Method := { name := "abs", desc := "(J)J", sig := { parameters := [.long], returnType := some .long }, accessFlags := 9, code := some k2c1 }
/-- java/lang/Math -/
def k2 : Class := { plain "java/lang/Math" (some 0) with
  accessFlags := 49
  interfaces := #[]
  cf := some (fileOf pool2 1 #[.nestMembers #[98]] #[{ accessFlags := 2, nameIndex := 7, descriptorIndex := 8, attributes := #[] }, { accessFlags := 9, nameIndex := 124, descriptorIndex := 125, attributes := #[] }] 49 4 #[] #[{ accessFlags := 25, nameIndex := 354, descriptorIndex := 339, attributes := #[] }, { accessFlags := 25, nameIndex := 358, descriptorIndex := 339, attributes := #[] }, { accessFlags := 25, nameIndex := 361, descriptorIndex := 339, attributes := #[] }, { accessFlags := 26, nameIndex := 364, descriptorIndex := 339, attributes := #[] }, { accessFlags := 26, nameIndex := 365, descriptorIndex := 339, attributes := #[] }, { accessFlags := 26, nameIndex := 172, descriptorIndex := 173, attributes := #[] }, { accessFlags := 26, nameIndex := 176, descriptorIndex := 173, attributes := #[] }, { accessFlags := 8, nameIndex := 344, descriptorIndex := 339, attributes := #[] }, { accessFlags := 8, nameIndex := 338, descriptorIndex := 339, attributes := #[] }, { accessFlags := 4120, nameIndex := 245, descriptorIndex := 246, attributes := #[] }])
  fields := #[{ name := "E", type := .double, accessFlags := 25, slot := 0, constantValue := 0 }, { name := "PI", type := .double, accessFlags := 25, slot := 1, constantValue := 0 }, { name := "TAU", type := .double, accessFlags := 25, slot := 2, constantValue := 0 }, { name := "DEGREES_TO_RADIANS", type := .double, accessFlags := 26, slot := 3, constantValue := 0 }, { name := "RADIANS_TO_DEGREES", type := .double, accessFlags := 26, slot := 4, constantValue := 0 }, { name := "negativeZeroFloatBits", type := .long, accessFlags := 26, slot := 5, constantValue := 0 }, { name := "negativeZeroDoubleBits", type := .long, accessFlags := 26, slot := 6, constantValue := 0 }, { name := "twoToTheDoubleScaleUp", type := .double, accessFlags := 8, slot := 7, constantValue := 0 }, { name := "twoToTheDoubleScaleDown", type := .double, accessFlags := 8, slot := 8, constantValue := 0 }, { name := "$assertionsDisabled", type := .boolean, accessFlags := 4120, slot := 9, constantValue := 0 }]
  methods := #[k2m0, k2m1]
  instanceTypes := #[]
  staticTypes := #[.double, .double, .double, .double, .double, .long, .long, .double, .double, .boolean]
  resolved := Array.replicate 460 none
  statics := none }

def pool3 : Array CpInfo := pool [(2, .class_ 4), (1, u "java/lang/Object"), (3, .class_ 10), (1, u "com/example/muster/muster/GameState"), (0, u "stock"), (0, u "[J"), (5, u "units"), (0, u "Ljava/util/List;"), (2, u "resources"), (8, u "unitsView"), (2, u "resourcesView"), (4, u "unitsById"), (0, u "[Lcom/example/muster/muster/Unit;"), (4, u "resourcesById"), (0, u "[Lcom/example/muster/muster/ResourceNode;"), (2, u "nextId"), (0, u "I"), (2, u "winner"), (2, u "completing"), (2, u "started"), (2, u "startedView"), (2, u "width"), (2, u "height"), (2, u "maxFrames"), (2, u "cells"), (0, u "[I"), (2, u "reserved"), (0, u "[Z"), (2, u "claims"), (51, u "frame"), (2, u "end"), (0, u "Lcom/example/muster/muster/GameState$End;"), (104, .class_ 245), (1, u "com/example/muster/muster/GameState$End"), (105, .class_ 353), (1, u "com/example/muster/muster/GameState$1"), (36, u "withinRange"), (0, u "(IIIII)Z"), (121, u "EMPTY"), (2, u "WALL"), (1, u "NO_CELL")] 67

def k3c0 : Code := { maxStack := 3, maxLocals := 7, code := prog_18_method_18_code, exceptionTable := #[], attributes := #[] }
def k3m0 : Method := { name := "withinRange", desc := "(IIIII)Z", sig := { parameters := [.int, .int, .int, .int, .int], returnType := some .boolean }, accessFlags := 9, code := some k3c0 }
/-- com/example/muster/muster/GameState -/
def k3 : Class := { plain "com/example/muster/muster/GameState" (some 0) with
  accessFlags := 49
  interfaces := #[]
  cf := some (fileOf pool3 8 #[.nestMembers #[351, 243]] #[{ accessFlags := 9, nameIndex := 390, descriptorIndex := 391, attributes := #[] }] 49 2 #[] #[{ accessFlags := 26, nameIndex := 513, descriptorIndex := 50, attributes := #[] }, { accessFlags := 26, nameIndex := 516, descriptorIndex := 50, attributes := #[] }, { accessFlags := 26, nameIndex := 518, descriptorIndex := 50, attributes := #[] }, { accessFlags := 18, nameIndex := 65, descriptorIndex := 50, attributes := #[] }, { accessFlags := 18, nameIndex := 68, descriptorIndex := 50, attributes := #[] }, { accessFlags := 18, nameIndex := 71, descriptorIndex := 50, attributes := #[] }, { accessFlags := 18, nameIndex := 74, descriptorIndex := 75, attributes := #[] }, { accessFlags := 18, nameIndex := 78, descriptorIndex := 79, attributes := #[] }, { accessFlags := 18, nameIndex := 11, descriptorIndex := 12, attributes := #[] }, { accessFlags := 18, nameIndex := 18, descriptorIndex := 19, attributes := #[] }, { accessFlags := 18, nameIndex := 22, descriptorIndex := 19, attributes := #[] }, { accessFlags := 18, nameIndex := 31, descriptorIndex := 19, attributes := #[] }, { accessFlags := 18, nameIndex := 34, descriptorIndex := 19, attributes := #[] }, { accessFlags := 2, nameIndex := 39, descriptorIndex := 40, attributes := #[] }, { accessFlags := 2, nameIndex := 45, descriptorIndex := 46, attributes := #[] }, { accessFlags := 2, nameIndex := 49, descriptorIndex := 50, attributes := #[] }, { accessFlags := 2, nameIndex := 134, descriptorIndex := 50, attributes := #[] }, { accessFlags := 2, nameIndex := 137, descriptorIndex := 138, attributes := #[] }, { accessFlags := 2, nameIndex := 53, descriptorIndex := 50, attributes := #[] }, { accessFlags := 18, nameIndex := 82, descriptorIndex := 75, attributes := #[] }, { accessFlags := 18, nameIndex := 56, descriptorIndex := 19, attributes := #[] }, { accessFlags := 18, nameIndex := 59, descriptorIndex := 19, attributes := #[] }, { accessFlags := 18, nameIndex := 62, descriptorIndex := 19, attributes := #[] }])
  fields := #[{ name := "EMPTY", type := .int, accessFlags := 26, slot := 0, constantValue := 0 }, { name := "WALL", type := .int, accessFlags := 26, slot := 1, constantValue := 0 }, { name := "NO_CELL", type := .int, accessFlags := 26, slot := 2, constantValue := 0 }, { name := "width", type := .int, accessFlags := 18, slot := 0, constantValue := 0 }, { name := "height", type := .int, accessFlags := 18, slot := 1, constantValue := 0 }, { name := "maxFrames", type := .int, accessFlags := 18, slot := 2, constantValue := 0 }, { name := "cells", type := (.array .int), accessFlags := 18, slot := 3, constantValue := 0 }, { name := "reserved", type := (.array .boolean), accessFlags := 18, slot := 4, constantValue := 0 }, { name := "stock", type := (.array .long), accessFlags := 18, slot := 5, constantValue := 0 }, { name := "units", type := (.object "java/util/List"), accessFlags := 18, slot := 6, constantValue := 0 }, { name := "resources", type := (.object "java/util/List"), accessFlags := 18, slot := 7, constantValue := 0 }, { name := "unitsView", type := (.object "java/util/List"), accessFlags := 18, slot := 8, constantValue := 0 }, { name := "resourcesView", type := (.object "java/util/List"), accessFlags := 18, slot := 9, constantValue := 0 }, { name := "unitsById", type := (.array (.object "com/example/muster/muster/Unit")), accessFlags := 2, slot := 10, constantValue := 0 }, { name := "resourcesById", type := (.array (.object "com/example/muster/muster/ResourceNode")), accessFlags := 2, slot := 11, constantValue := 0 }, { name := "nextId", type := .int, accessFlags := 2, slot := 12, constantValue := 0 }, { name := "frame", type := .int, accessFlags := 2, slot := 13, constantValue := 0 }, { name := "end", type := (.object "com/example/muster/muster/GameState$End"), accessFlags := 2, slot := 14, constantValue := 0 }, { name := "winner", type := .int, accessFlags := 2, slot := 15, constantValue := 0 }, { name := "claims", type := (.array .int), accessFlags := 18, slot := 16, constantValue := 0 }, { name := "completing", type := (.object "java/util/List"), accessFlags := 18, slot := 17, constantValue := 0 }, { name := "started", type := (.object "java/util/List"), accessFlags := 18, slot := 18, constantValue := 0 }, { name := "startedView", type := (.object "java/util/List"), accessFlags := 18, slot := 19, constantValue := 0 }]
  methods := #[k3m0]
  instanceTypes := #[.int, .int, .int, (.array .int), (.array .boolean), (.array .long), (.object "java/util/List"), (.object "java/util/List"), (.object "java/util/List"), (.object "java/util/List"), (.array (.object "com/example/muster/muster/Unit")), (.array (.object "com/example/muster/muster/ResourceNode")), .int, .int, (.object "com/example/muster/muster/GameState$End"), .int, (.array .int), (.object "java/util/List"), (.object "java/util/List"), (.object "java/util/List")]
  staticTypes := #[.int, .int, .int]
  resolved := Array.replicate 586 none
  statics := none }

def pool4 : Array CpInfo := pool [(1, u "java/lang/Cloneable"), (0, .class_ 1), (0, u "java/lang/Object"), (0, .class_ 3)] 3

/-- java/lang/Cloneable -/
def k4 : Class := { plain "java/lang/Cloneable" (some 0) with
  accessFlags := 1537
  interfaces := #[]
  cf := some (fileOf pool4 2 #[] #[] 1537 4 #[] #[])
  fields := #[]
  methods := #[]
  instanceTypes := #[]
  staticTypes := #[]
  resolved := Array.replicate 8 none
  statics := none }

def pool5 : Array CpInfo := pool [(1, u "java/io/Serializable"), (0, .class_ 1), (0, u "java/lang/Object"), (0, .class_ 3)] 3

/-- java/io/Serializable -/
def k5 : Class := { plain "java/io/Serializable" (some 0) with
  accessFlags := 1537
  interfaces := #[]
  cf := some (fileOf pool5 2 #[] #[] 1537 4 #[] #[])
  fields := #[]
  methods := #[]
  instanceTypes := #[]
  staticTypes := #[]
  resolved := Array.replicate 8 none
  statics := none }

/-- the primitive byte -/
def k6 : Class := { plain "byte" none with kind := .primitive 'B', accessFlags := 0x411 }
/-- [B -/
def k7 : Class := { plain "[B" (some 0) with kind := .array 6 .byte, interfaces := #[4, 5], accessFlags := 1041 }

/-- the primitive int -/
def k8 : Class := { plain "int" none with kind := .primitive 'I', accessFlags := 0x411 }
/-- [I -/
def k9 : Class := { plain "[I" (some 0) with kind := .array 8 .int, interfaces := #[4, 5], accessFlags := 1041 }

def heap : Heap := #[]
def classes : Array Class := #[k0, k1, k2, k3, k4, k5, k6, k7, k8, k9]
def interned : List (Array UInt16 × Addr) := []
def slotsUsed : Nat := 0
def theMethod : MethodId := ⟨1, 1⟩
def args0 : Array Value := #[.int 5, .int 7, .int 9, .int 11, .int 20]
def aboutOver (below : List Frame) : State where
  vm := { classes := classes, interned := interned.toArray }
  heap := heap
  slotsUsed := slotsUsed
  threads := #[{ frames := .invoking theMethod args0 :: below }]
def below0 : List Frame := [.native { method := ⟨0, 0⟩, args := #[] }]
def about1 : State := aboutOver below0
def p0 : Program := .bare "" "" ""
def e0 : Env := launch0.env 0 0 0
theorem w_frames : about1.frames = Frame.invoking theMethod args0 :: below0 := rfl
set_option maxRecDepth 65536 in
theorem w_args : argsFit about1.vm theMethod args0 = true := by decide +kernel
set_option maxRecDepth 65536 in
theorem w_heap : heapFits about1 = true := by decide +kernel
set_option maxRecDepth 65536 in
theorem w_runnable : about1.curStatus? = some .runnable := by decide +kernel
set_option maxRecDepth 65536 in
theorem w_alone : about1.alone = true := by decide +kernel
set_option maxRecDepth 65536 in
theorem w_named : about1.methodNamed? x = some theMethod := by decide +kernel
set_option maxRecDepth 65536 in
theorem w_hears : about1.hears theMethod below0 = true := by decide +kernel
set_option maxRecDepth 65536 in
theorem w_ripe : about1.ripe theMethod args0 below0 = true := by decide +kernel
theorem w_running : about1.status = .running := rfl
set_option maxRecDepth 65536 in
theorem w_room : about1.hasRoom e0.platform room_1 = true :=
  launch0.hasRoom_least _ room_1 (by decide +kernel) (by decide +kernel) (by decide +kernel) (by decide +kernel) (by decide +kernel) (by decide +kernel)
theorem allAtoms_all (ts : List Jvm.Cond) (a : Array Jvm.Value) (st : Jvm.State) : (allAtoms ts).before a st = ts.all (fun c => c.before a st) := by
  induction ts with
  | nil => rfl
  | cons c t ih =>
    show (Jvm.Cond.and c (allAtoms t)).before a st = _
    rw [Jvm.Cond.before_and, ih, List.all_cons]
def words1 : List Jvm.Cond := Jvm.Cond.code x code maxLocals ret :: tables_1
/-- a 'code' word, met by the world's own term for the bytes: nothing is compared byte by byte -/
theorem code_word {y : MethodName} {bytes : ByteArray} {mx : Nat} {rt : Option FieldType} {a : Array Value} {s : State} {m : MethodId} {meth : Method} {c : Code} (h1 : s.methodNamed? y = some m) (h2 : s.vm.method? m = some meth) (h3 : meth.code = some c) (h4 : c.code = bytes)
    (h5 : (c.maxLocals == mx && c.exceptionTable.isEmpty && decide (c.maxStack ≤ mostOperands) && decide (meth.sig.returnType = rt) && !meth.locks && decide (parseMethodDescriptor y.desc = some meth.sig)) = true) : (Jvm.Cond.code y bytes mx rt).before a s = true := by
  simp only [Bool.and_eq_true, beq_iff_eq, Bool.not_eq_true', decide_eq_true_eq] at h5
  obtain ⟨⟨⟨⟨⟨g1, g2⟩, g3⟩, g4⟩, g5⟩, g6⟩ := h5
  simp [Cond.before, Cond.holds, Cond.value, h1, h2, h3, h4, g1, g2, g3, g4, g5, g6]
def isCode : Jvm.Cond → Bool
  | .code _ _ _ _ => true
  | _ => false
theorem all_split {L : List Jvm.Cond} {P : Jvm.Cond → Bool} (h1 : L.all (fun c => isCode c || P c) = true) (h2 : ∀ c ∈ L.filter isCode, P c = true) : L.all P = true := by
  refine List.all_eq_true.mpr fun c hc => ?_
  have h := List.all_eq_true.mp h1 c hc
  rcases Bool.eq_false_or_eq_true (isCode c) with hi | hi
  · exact h2 c (List.mem_filter.mpr ⟨hc, hi⟩)
  · simpa [hi] using h
set_option maxRecDepth 65536 in
theorem w_c0 : (Jvm.Cond.code x code maxLocals ret).before args0 about1 = true := code_word (m := ⟨1, 1⟩) (meth := k1m1) (c := k1c1) (by decide +kernel) rfl rfl rfl (by decide +kernel)
set_option maxRecDepth 65536 in
theorem w_c1 : (Jvm.Cond.code ({ cls := "java/lang/Math", name := "abs", desc := "(J)J" } : Jvm.MethodName) jdk_29_method_61_code (2 : Nat) (Option.some Jvm.ClassFile.FieldType.long)).before args0 about1 = true := code_word (m := ⟨2, 1⟩) (meth := k2m1) (c := k2c1) (by decide +kernel) rfl rfl rfl (by decide +kernel)
set_option maxRecDepth 65536 in
theorem w_c2 : (Jvm.Cond.code ({ cls := "com/example/muster/muster/GameState", name := "withinRange", desc := "(IIIII)Z" } : Jvm.MethodName) prog_18_method_18_code (7 : Nat) (Option.some Jvm.ClassFile.FieldType.boolean)).before args0 about1 = true := code_word (m := ⟨3, 0⟩) (meth := k3m0) (c := k3c0) (by decide +kernel) rfl rfl rfl (by decide +kernel)
def codes1 : List Jvm.Cond := [Jvm.Cond.code x code maxLocals ret, Jvm.Cond.code ({ cls := "java/lang/Math", name := "abs", desc := "(J)J" } : Jvm.MethodName) jdk_29_method_61_code (2 : Nat) (Option.some Jvm.ClassFile.FieldType.long), Jvm.Cond.code ({ cls := "com/example/muster/muster/GameState", name := "withinRange", desc := "(IIIII)Z" } : Jvm.MethodName) prog_18_method_18_code (7 : Nat) (Option.some Jvm.ClassFile.FieldType.boolean)]
set_option maxRecDepth 65536 in
theorem codes_eq : words1.filter isCode = codes1 := rfl
theorem w_codes : ∀ c ∈ words1.filter isCode, c.before args0 about1 = true := by
  rw [codes_eq]
  intro c hc
  simp only [codes1, List.mem_cons, List.not_mem_nil, or_false] at hc
  rcases hc with rfl | rfl | rfl
  · exact w_c0
  · exact w_c1
  · exact w_c2
set_option maxRecDepth 65536 in
theorem w_t1 : words1.all (fun c => isCode c || c.before args0 about1) = true := by decide +kernel
theorem w_tables : (allAtoms (Jvm.Cond.code x code maxLocals ret :: tables_1)).before args0 about1 = true := by
  rw [allAtoms_all]
  show words1.all (fun c => c.before args0 about1) = true
  refine all_split ?_ w_codes
  rw [w_t1]
set_option maxRecDepth 65536 in
theorem w_case : (Jvm.Cond.and given_1 narrow_1).before args0 about1 = true := by decide +kernel
theorem w_applies : (headSpec (Jvm.Cond.code x code maxLocals ret :: tables_1) room_1).applies x e0.platform about1 = true :=
  (Spec.applies_iff w_frames).mpr ⟨w_running, w_runnable, w_alone, w_named, w_hears, w_ripe, w_room, w_tables⟩
theorem atStart : AtStart classFile x code maxLocals ret World_1 tables_1 room_1 Calls_1 rest_1 Pre_1 launch0 p0 e0 about1 theMethod args0 below0 :=
  ⟨lists_1, trivial, launch0.admits_env _ _ _, launch0.least_env, fairChoices_fair.cas, fairChoices_fair.clock, w_frames, w_args, w_heap, w_applies, trivial, trivial, w_case⟩
end start1
theorem witness_1 : WitnessClaimed_1 := ⟨start1.p0, start1.e0, start1.about1, start1.theMethod, start1.args0, start1.below0, start1.atStart⟩
end Jvm.Pilot.@@N@@
