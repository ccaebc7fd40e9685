import JvmDerived
import JvmDerived.Pilot.@@N@@Statement
import JvmDerived.Pilot.@@N@@Code
set_option linter.unusedVariables false
set_option linter.unusedSimpArgs false
namespace Jvm.RoadKit
open Sem ClassFile Op Lib Jvm.Stand Jvm.Free Jvm.LawKit
section New
variable {p : Program} {l : Launch} {e : Env} {R : Room} {s : State} {m : MethodId} {args : Array Value} {below : List Frame} {meth : Method} {c : Code} {T : State} {locs : List Loc} {cells slots : Nat}
theorem retI (X : Stand p l e R s m args below meth c T locs cells slots) (hx : p.tables.exec = Jvm.exec) {pc : Nat} {Ls : Array Slot} {z : Int32} {rest : List Value} (hret : meth.sig.returnType = some .int) (hd : decode c.code pc = .ok (.ireturn, 1)) {fs : List Frame}
    (hl : ∀ (f : JFrame) (acts : List Action), f.method = m → f.locked = none → f.entered = [] → (doReturn e (T.setTop f) acts (some (.int z))).1 = T.setFrames fs) : Steps p.tables e below (T.setTop (mkF m pc Ls (.int z :: rest))) (T.setFrames fs) := by
  have hm' : T.vm.method? m = some meth := X.method'
  have hn : narrow .int (.int z) = .int z := rfl
  show Steps p.tables e below (T.setTop { method := m, pc := pc, locals := Ls, stack := _ :: rest, locked := none }) _
  jvm_step X.here [X.here.top, hx, hd, hm', hret, hn]
  first | (intro acts; rw [hl _ acts rfl rfl rfl]) | rw [hl _ _ rfl rfl rfl]
  exact Steps.refl _
theorem retJ (X : Stand p l e R s m args below meth c T locs cells slots) (hx : p.tables.exec = Jvm.exec) {pc : Nat} {Ls : Array Slot} {z : Int64} {rest : List Value} (hret : meth.sig.returnType = some .long) (hd : decode c.code pc = .ok (.lreturn, 1)) {fs : List Frame}
    (hl : ∀ (f : JFrame) (acts : List Action), f.method = m → f.locked = none → f.entered = [] → (doReturn e (T.setTop f) acts (some (.long z))).1 = T.setFrames fs) : Steps p.tables e below (T.setTop (mkF m pc Ls (.long z :: rest))) (T.setFrames fs) := by
  have hm' : T.vm.method? m = some meth := X.method'
  have hn : narrow .long (.long z) = .long z := rfl
  show Steps p.tables e below (T.setTop { method := m, pc := pc, locals := Ls, stack := _ :: rest, locked := none }) _
  jvm_step X.here [X.here.top, hx, hd, hm', hret, hn]
  first | (intro acts; rw [hl _ acts rfl rfl rfl]) | rw [hl _ _ rfl rfl rfl]
  exact Steps.refl _
end New
end Jvm.RoadKit
namespace Jvm.Pilot.@@N@@
open Jvm Jvm.ClassFile Sem Op Lib Jvm.Free Jvm.Stand Jvm.LawKit Jvm.RoadKit Bundle Jvm.Pilot.@@N@@.Jvm.D
theorem own_j1 {G : Prop} {A : Prop → Prop} (h1 : A G) (h2 : A G → G) : G := h2 h1
theorem own_static {args : Array Value} {s : State} {C n d K : String} (h : (Jvm.Cond.exactly (Term.static C n d) K).value args s none s [] = some true) (hi : (Jvm.Cond.initialized C).before args s = true) (hl : (Jvm.Cond.laysStatic C n d).before args s = true) :
    ∃ a, (Term.static C n d).eval args s none [] s = some (.ref a) ∧ Exa s s.heap a K ∧ Sta s s.heap C n d (.ref a) := by
  obtain ⟨a, ev⟩ := exa_v h
  exact ⟨a, ev, Exa.start ev h, Sta.start ev (Or.inr ⟨hi, hl⟩)⟩
theorem own_ord {args : Array Value} {s : State} {C n d : String} {a : Addr} {k : Int32} (ev : (Term.static C n d).eval args s none [] s = some (.ref a)) (h : (Jvm.Cond.eq (Term.field (Term.static C n d) "java/lang/Enum" "ordinal" "I") (Term.int k)).value args s none s [] = some true) :
    Fld s s.heap a "java/lang/Enum" "ordinal" "I" (.int k) := by
  have q := Jvm.Free.NT.SwA.eq_int (Cond.before_iff.mpr h)
  rw [fld_at ev] at q
  exact Fld.start q
theorem own_vne {x y : Int32} (h : x ≠ y) : Value.int x ≠ Value.int y := fun q => h (Value.int.inj q)
theorem own_b53 (x : Int32) : B53 x.toInt64 := by
  have h := rng32 x
  show -9007199254740992 < x.toInt64.toInt ∧ x.toInt64.toInt < 9007199254740992
  rw [c_i2l]; omega
theorem own_dcmp (x y : Int32) (o : CmpOp) : cmpValue (FP.dcmp (FP.i2d x) (FP.i2d y)) o = lcmpW x.toInt64 y.toInt64 := by
  rw [i2d_w, i2d_w]; exact dcmpV_w (own_b53 x) (own_b53 y) o
def own_min (x y : Int32) : Int32 := if y < x then y else x
def own_max (x y : Int32) : Int32 := if x < y then y else x
theorem own_mn (x y : Int32) : ((own_min x y).toInt = y.toInt ∧ y.toInt < x.toInt) ∨ ((own_min x y).toInt = x.toInt ∧ x.toInt ≤ y.toInt) := by
  rw [own_min]
  by_cases h : y < x
  · rw [if_pos h]; rw [Int32.lt_iff_toInt_lt] at h; exact Or.inl ⟨rfl, h⟩
  · rw [if_neg h]; rw [Int32.lt_iff_toInt_lt] at h; exact Or.inr ⟨rfl, by omega⟩
theorem own_mx (x y : Int32) : ((own_max x y).toInt = y.toInt ∧ x.toInt < y.toInt) ∨ ((own_max x y).toInt = x.toInt ∧ y.toInt ≤ x.toInt) := by
  rw [own_max]
  by_cases h : x < y
  · rw [if_pos h]; rw [Int32.lt_iff_toInt_lt] at h; exact Or.inl ⟨rfl, h⟩
  · rw [if_neg h]; rw [Int32.lt_iff_toInt_lt] at h; exact Or.inr ⟨rfl, by omega⟩
theorem own_mm {a b x y : Int32} (hx : x = own_min a b) (hy : y = own_max a b) : x.toInt ≤ y.toInt := by
  have h1 := own_mn a b
  have h2 := own_mx a b
  rw [← hx] at h1
  rw [← hy] at h2
  omega
theorem own_l64 (x y : Int32) : x.toInt64 < y.toInt64 ↔ x.toInt < y.toInt := by rw [Int64.lt_iff_toInt_lt, c_i2l, c_i2l]
theorem own_eqD {args : Array Value} {s : State} {X : Term} {n : Int64} {u : UInt64} (hu : n.toUInt64 = u) (h : (Jvm.Cond.eq X (Term.op1 .bitsD (Term.long n))).value args s none s [] = some true) : X.eval args s none [] s = some (.double u) := by
  have e0 : (Term.op1 .bitsD (Term.long n)).eval args s none [] s = some (.double u) := by subst hu; rfl
  obtain ⟨x, y, e1, e2, k1, k2⟩ := cmp_v (Or.inl h)
  cases e0.symm.trans e2
  obtain ⟨z, rfl⟩ : ∃ z, x = .double z := k2
  have q : z = u := by simpa [Cond.value, e1, e2] using h
  rw [e1, q]
theorem own_fD {args : Array Value} {s : State} {C n d K f : String} {a : Addr} {k : Int64} {u : UInt64} (hu : k.toUInt64 = u) (ev : (Term.static C n d).eval args s none [] s = some (.ref a)) (h : (Jvm.Cond.eq (Term.field (Term.static C n d) K f "D") (Term.op1 .bitsD (Term.long k))).value args s none s [] = some true) :
    Fld s s.heap a K f "D" (.double u) := by
  have q := own_eqD hu h
  rw [fld_at ev] at q
  exact Fld.start q
theorem own_ninf : (-4503599627370496 : Int64).toUInt64 = 18442240474082181120 := by decide
theorem own_pinf : (9218868437227405312 : Int64).toUInt64 = 9218868437227405312 := by decide
def own_cont (u1 u2 u3 u4 w1 w2 w3 w4 : Int32) : Int32 := if w1.toInt64 < u1.toInt64 then 0 else if u3.toInt64 < w3.toInt64 then 0 else if w2.toInt64 < u2.toInt64 then 0 else if u4.toInt64 < w4.toInt64 then 0 else 1
theorem own_ct (u1 u2 u3 u4 w1 w2 w3 w4 : Int32) : (own_cont u1 u2 u3 u4 w1 w2 w3 w4 = 1 ∧ u1.toInt ≤ w1.toInt ∧ w3.toInt ≤ u3.toInt ∧ u2.toInt ≤ w2.toInt ∧ w4.toInt ≤ u4.toInt) ∨ (own_cont u1 u2 u3 u4 w1 w2 w3 w4 = 0 ∧ (w1.toInt < u1.toInt ∨ u3.toInt < w3.toInt ∨ w2.toInt < u2.toInt ∨ u4.toInt < w4.toInt)) := by
  rw [own_cont]
  by_cases h1 : w1.toInt64 < u1.toInt64
  · rw [if_pos h1]; rw [own_l64] at h1; exact Or.inr ⟨rfl, Or.inl h1⟩
  rw [if_neg h1]; rw [own_l64] at h1
  by_cases h2 : u3.toInt64 < w3.toInt64
  · rw [if_pos h2]; rw [own_l64] at h2; exact Or.inr ⟨rfl, Or.inr (Or.inl h2)⟩
  rw [if_neg h2]; rw [own_l64] at h2
  by_cases h3 : w2.toInt64 < u2.toInt64
  · rw [if_pos h3]; rw [own_l64] at h3; exact Or.inr ⟨rfl, Or.inr (Or.inr (Or.inl h3))⟩
  rw [if_neg h3]; rw [own_l64] at h3
  by_cases h4 : u4.toInt64 < w4.toInt64
  · rw [if_pos h4]; rw [own_l64] at h4; exact Or.inr ⟨rfl, Or.inr (Or.inr (Or.inr h4))⟩
  rw [if_neg h4]; rw [own_l64] at h4
  exact Or.inl ⟨rfl, by omega, by omega, by omega, by omega⟩
def own_in (x0 y0 x1 y1 x y : Int32) : Int32 := if x < x0 then 0 else if x1 < x then 0 else if y < y0 then 0 else if y1 < y then 0 else 1
theorem own_int (x0 y0 x1 y1 x y : Int32) : (own_in x0 y0 x1 y1 x y = 1 ∧ x0.toInt ≤ x.toInt ∧ x.toInt ≤ x1.toInt ∧ y0.toInt ≤ y.toInt ∧ y.toInt ≤ y1.toInt) ∨ (own_in x0 y0 x1 y1 x y = 0 ∧ (x.toInt < x0.toInt ∨ x1.toInt < x.toInt ∨ y.toInt < y0.toInt ∨ y1.toInt < y.toInt)) := by
  rw [own_in]
  by_cases h1 : x < x0
  · rw [if_pos h1]; rw [Int32.lt_iff_toInt_lt] at h1; exact Or.inr ⟨rfl, Or.inl h1⟩
  rw [if_neg h1]; rw [Int32.lt_iff_toInt_lt] at h1
  by_cases h2 : x1 < x
  · rw [if_pos h2]; rw [Int32.lt_iff_toInt_lt] at h2; exact Or.inr ⟨rfl, Or.inr (Or.inl h2)⟩
  rw [if_neg h2]; rw [Int32.lt_iff_toInt_lt] at h2
  by_cases h3 : y < y0
  · rw [if_pos h3]; rw [Int32.lt_iff_toInt_lt] at h3; exact Or.inr ⟨rfl, Or.inr (Or.inr (Or.inl h3))⟩
  rw [if_neg h3]; rw [Int32.lt_iff_toInt_lt] at h3
  by_cases h4 : y1 < y
  · rw [if_pos h4]; rw [Int32.lt_iff_toInt_lt] at h4; exact Or.inr ⟨rfl, Or.inr (Or.inr (Or.inr h4))⟩
  rw [if_neg h4]; rw [Int32.lt_iff_toInt_lt] at h4
  exact Or.inl ⟨rfl, by omega, by omega, by omega, by omega⟩
theorem own_10 : ¬ (1 : Int32) = 0 := by decide
theorem own_c1 {u1 u2 u3 u4 w1 w2 w3 w4 : Int32} (b1 : w1.toInt ≤ w3.toInt) (b2 : w2.toInt ≤ w4.toInt) (h : own_in u1 u2 u3 u4 w1 w2 = 0) : own_cont u1 u2 u3 u4 w1 w2 w3 w4 = 0 := by
  rcases own_int u1 u2 u3 u4 w1 w2 with q | q
  · rw [q.1] at h; exact absurd h own_10
  rcases own_ct u1 u2 u3 u4 w1 w2 w3 w4 with r | r
  · omega
  · exact r.1
theorem own_c2 {u1 u2 u3 u4 w1 w2 w3 w4 : Int32} (b1 : w1.toInt ≤ w3.toInt) (b2 : w2.toInt ≤ w4.toInt) (h : own_in u1 u2 u3 u4 w3 w4 = 0) : own_cont u1 u2 u3 u4 w1 w2 w3 w4 = 0 := by
  rcases own_int u1 u2 u3 u4 w3 w4 with q | q
  · rw [q.1] at h; exact absurd h own_10
  rcases own_ct u1 u2 u3 u4 w1 w2 w3 w4 with r | r
  · omega
  · exact r.1
theorem own_c3 {u1 u2 u3 u4 w1 w2 w3 w4 : Int32} (h : ¬ own_in u1 u2 u3 u4 w1 w2 = 0) (h' : ¬ own_in u1 u2 u3 u4 w3 w4 = 0) : own_cont u1 u2 u3 u4 w1 w2 w3 w4 = 1 := by
  rcases own_int u1 u2 u3 u4 w1 w2 with q | q
  · rcases own_int u1 u2 u3 u4 w3 w4 with q' | q'
    · rcases own_ct u1 u2 u3 u4 w1 w2 w3 w4 with r | r
      · exact r.1
      · omega
    · exact absurd q'.1 h'
  · exact absurd q.1 h
theorem d1_0 : decode jdk_29_method_69_code 0 = .ok (.iload_n 0, 1) := by decide +kernel
theorem d1_1 : decode jdk_29_method_69_code 1 = .ok (.iload_n 1, 1) := by decide +kernel
theorem d1_2 : decode jdk_29_method_69_code 2 = .ok (.if_icmp .gt 7, 3) := by decide +kernel
theorem d1_5 : decode jdk_29_method_69_code 5 = .ok (.iload_n 0, 1) := by decide +kernel
theorem d1_6 : decode jdk_29_method_69_code 6 = .ok (.goto 4, 3) := by decide +kernel
theorem d1_9 : decode jdk_29_method_69_code 9 = .ok (.iload_n 1, 1) := by decide +kernel
theorem d1_10 : decode jdk_29_method_69_code 10 = .ok (.ireturn, 1) := by decide +kernel
theorem ef_rmMin (m : MethodId) (x0 : Int32) (x1 : Int32) : entryFrame m #[(.int x0), (.int x1)] 2 = mkF m 0 #[.val (.int x0), .val (.int x1)] [] := by first | (simp [entryFrame, mkF, argsToLocals, Value.category]; done) | rfl
def QrmMin (Z : State) (p1 : Int32) (p2 : Int32) (h0 : Heap) (n0 : Nat) (v : Option Value) (h : Heap) (L : List Loc) : Prop := v = some (.int (own_min p1 p2)) ∧ Fr n0 L ∧ h = h0
set_option maxRecDepth 65536 in
set_option maxHeartbeats 40000000 in
theorem rmMin (l : Launch) (Z : State) (a0 : Array Value) (hw : ∀ d ∈ tables_1, d.before a0 Z = true) (ws : List Jvm.Cond) (p1 : Int32) (p2 : Int32) (h0 : Heap) (n0 : Nat) (Z0 : n0 ≤ h0.size) :
    MetFree l (⟨"java/lang/Math", "min", "(II)I"⟩ : MethodName) (head1 (Jvm.Cond.code (⟨"java/lang/Math", "min", "(II)I"⟩ : MethodName) jdk_29_method_69_code 2 (some .int) :: ws) ({ frames := 0, cells := 0, slots := 0, locals := 0 } : Room)) (fun a U => a = #[(.int p1), (.int p2)] ∧ Z.Warmed39 U.vm ∧ U.heap = h0) (fun _ _ _ _ _ => True) (fun _ U o U' => ∃ v L, o = .returned v ∧ QrmMin Z p1 p2 h0 n0 v U'.heap L ∧ FrameEnd U o U' L ({ frames := 0, cells := 0, slots := 0, locals := 0 } : Room).cells ({ frames := 0, cells := 0, slots := 0, locals := 0 } : Room).slots) := by
  refine MetFree.of_bodySF (Jvm.Free.JP.mathPlain rfl (by decide +kernel)) hisR ?_
  intro p e s m args below meth c s₁ Bd hml0 hP hK
  obtain ⟨rfl, hZ, hh⟩ := hP
  have hx := Bd.exec
  have hby := Bd.bytes
  have hml : c.maxLocals = 2 := hml0
  have hown : s.vm.findClass "java/lang/Math" = some m.cls := findClass_of_methodNamed Bd.named
  have hnm := (name_of_methodNamed Bd.named Bd.method).1
  have X0 : Stand p l e ({ frames := 0, cells := 0, slots := 0, locals := 0 } : Room) s m #[(.int p1), (.int p2)] below meth c s₁ [] 0 0 := Stand.of_body Bd
  have e0 : s₁.heap = h0 := by rw [← hh, Bd.state]; rfl
  have N0 := Fr.nil n0
  have pre0 : ∀ t_, Steps p.tables e below (s₁.setTop (mkF m 0 #[.val (.int p1), .val (.int p2)] [])) t_ → Steps p.tables e below (s₁.setTop (entryFrame m #[(.int p1), (.int p2)] 2)) t_ := fun t_ k_ => castTop (ef_rmMin m p1 p2) k_
  have pre101 : ∀ t_, Steps p.tables e below (s₁.setTop (mkF m 2 #[.val (.int p1), .val (.int p2)] [(.int p2), (.int p1)])) t_ → Steps p.tables e below (s₁.setTop (entryFrame m #[(.int p1), (.int p2)] 2)) t_ := fun t_ k_ => pre0 _ (by
    show Steps p.tables e below (s₁.setTop (mkF m 0 #[.val (.int p1), .val (.int p2)] [])) _
    refine XS.iloadN X0.here hx rfl (hb hby d1_0) rfl ?_
    show Steps p.tables e below (s₁.setTop (mkF m 1 #[.val (.int p1), .val (.int p2)] [(.int p1)])) _
    refine XS.iloadN X0.here hx rfl (hb hby d1_1) rfl ?_
    exact k_)
  by_cases hc : p2 < p1
  · skip
    have pre102 : ∀ t_, Steps p.tables e below (s₁.setTop (mkF m 10 #[.val (.int p1), .val (.int p2)] [(.int p2)])) t_ → Steps p.tables e below (s₁.setTop (entryFrame m #[(.int p1), (.int p2)] 2)) t_ := fun t_ k_ => pre101 _ (by
      show Steps p.tables e below (s₁.setTop (mkF m 2 #[.val (.int p1), .val (.int p2)] [(.int p2), (.int p1)])) _
      refine XS.icmpYes X0.here hx rfl (pc0 := 2) (pc' := 9) rfl (hb hby d1_2) rfl (tlt hc).2.2.1 (by decide) (by decide) ?_
      show Steps p.tables e below (s₁.setTop (mkF m 9 #[.val (.int p1), .val (.int p2)] [])) _
      refine XS.iloadN X0.here hx rfl (hb hby d1_9) rfl ?_
      exact k_)
    obtain ⟨fs, hr, hrun, hended, hW, hsame⟩ := X0.leave (v := some (.int p2)) (fun h => by rw [Bd.returns] at h; cases h)
    refine ⟨_, _, pre102 _ ?_, hrun, hended, _, _, rfl, ?_, ⟨_, rfl⟩, hW, hsame.mono (by decide) (by decide)⟩
    · show Steps p.tables e below (s₁.setTop (mkF m 10 #[.val (.int p1), .val (.int p2)] [(.int p2)])) _
      exact retI X0 hx Bd.returns (hb hby d1_10) hr
    · show QrmMin Z p1 p2 h0 n0 _ s₁.heap _
      rw [e0]
      exact ⟨by rw [own_min, if_pos hc], N0, rfl⟩
  · skip
    have pre103 : ∀ t_, Steps p.tables e below (s₁.setTop (mkF m 10 #[.val (.int p1), .val (.int p2)] [(.int p1)])) t_ → Steps p.tables e below (s₁.setTop (entryFrame m #[(.int p1), (.int p2)] 2)) t_ := fun t_ k_ => pre101 _ (by
      show Steps p.tables e below (s₁.setTop (mkF m 2 #[.val (.int p1), .val (.int p2)] [(.int p2), (.int p1)])) _
      refine XS.icmpNo X0.here hx rfl (hb hby d1_2) rfl (flt hc).2.2.1 ?_
      show Steps p.tables e below (s₁.setTop (mkF m 5 #[.val (.int p1), .val (.int p2)] [])) _
      refine XS.iloadN X0.here hx rfl (hb hby d1_5) rfl ?_
      show Steps p.tables e below (s₁.setTop (mkF m 6 #[.val (.int p1), .val (.int p2)] [(.int p1)])) _
      refine XS.goto X0.here hx rfl (pc0 := 6) (pc' := 10) rfl (hb hby d1_6) (by decide) (by decide) ?_
      exact k_)
    obtain ⟨fs, hr, hrun, hended, hW, hsame⟩ := X0.leave (v := some (.int p1)) (fun h => by rw [Bd.returns] at h; cases h)
    refine ⟨_, _, pre103 _ ?_, hrun, hended, _, _, rfl, ?_, ⟨_, rfl⟩, hW, hsame.mono (by decide) (by decide)⟩
    · show Steps p.tables e below (s₁.setTop (mkF m 10 #[.val (.int p1), .val (.int p2)] [(.int p1)])) _
      exact retI X0 hx Bd.returns (hb hby d1_10) hr
    · show QrmMin Z p1 p2 h0 n0 _ s₁.heap _
      rw [e0]
      exact ⟨by rw [own_min, if_neg hc], N0, rfl⟩
theorem d2_0 : decode jdk_29_method_65_code 0 = .ok (.iload_n 0, 1) := by decide +kernel
theorem d2_1 : decode jdk_29_method_65_code 1 = .ok (.iload_n 1, 1) := by decide +kernel
theorem d2_2 : decode jdk_29_method_65_code 2 = .ok (.if_icmp .lt 7, 3) := by decide +kernel
theorem d2_5 : decode jdk_29_method_65_code 5 = .ok (.iload_n 0, 1) := by decide +kernel
theorem d2_6 : decode jdk_29_method_65_code 6 = .ok (.goto 4, 3) := by decide +kernel
theorem d2_9 : decode jdk_29_method_65_code 9 = .ok (.iload_n 1, 1) := by decide +kernel
theorem d2_10 : decode jdk_29_method_65_code 10 = .ok (.ireturn, 1) := by decide +kernel
theorem ef_rmMax (m : MethodId) (x0 : Int32) (x1 : Int32) : entryFrame m #[(.int x0), (.int x1)] 2 = mkF m 0 #[.val (.int x0), .val (.int x1)] [] := by first | (simp [entryFrame, mkF, argsToLocals, Value.category]; done) | rfl
def QrmMax (Z : State) (p1 : Int32) (p2 : Int32) (h0 : Heap) (n0 : Nat) (v : Option Value) (h : Heap) (L : List Loc) : Prop := v = some (.int (own_max p1 p2)) ∧ Fr n0 L ∧ h = h0
set_option maxRecDepth 65536 in
set_option maxHeartbeats 40000000 in
theorem rmMax (l : Launch) (Z : State) (a0 : Array Value) (hw : ∀ d ∈ tables_1, d.before a0 Z = true) (ws : List Jvm.Cond) (p1 : Int32) (p2 : Int32) (h0 : Heap) (n0 : Nat) (Z0 : n0 ≤ h0.size) :
    MetFree l (⟨"java/lang/Math", "max", "(II)I"⟩ : MethodName) (head1 (Jvm.Cond.code (⟨"java/lang/Math", "max", "(II)I"⟩ : MethodName) jdk_29_method_65_code 2 (some .int) :: ws) ({ frames := 0, cells := 0, slots := 0, locals := 0 } : Room)) (fun a U => a = #[(.int p1), (.int p2)] ∧ Z.Warmed39 U.vm ∧ U.heap = h0) (fun _ _ _ _ _ => True) (fun _ U o U' => ∃ v L, o = .returned v ∧ QrmMax Z p1 p2 h0 n0 v U'.heap L ∧ FrameEnd U o U' L ({ frames := 0, cells := 0, slots := 0, locals := 0 } : Room).cells ({ frames := 0, cells := 0, slots := 0, locals := 0 } : Room).slots) := by
  refine MetFree.of_bodySF (Jvm.Free.JP.mathPlain rfl (by decide +kernel)) hisR ?_
  intro p e s m args below meth c s₁ Bd hml0 hP hK
  obtain ⟨rfl, hZ, hh⟩ := hP
  have hx := Bd.exec
  have hby := Bd.bytes
  have hml : c.maxLocals = 2 := hml0
  have hown : s.vm.findClass "java/lang/Math" = some m.cls := findClass_of_methodNamed Bd.named
  have hnm := (name_of_methodNamed Bd.named Bd.method).1
  have X0 : Stand p l e ({ frames := 0, cells := 0, slots := 0, locals := 0 } : Room) s m #[(.int p1), (.int p2)] below meth c s₁ [] 0 0 := Stand.of_body Bd
  have e0 : s₁.heap = h0 := by rw [← hh, Bd.state]; rfl
  have N0 := Fr.nil n0
  have pre0 : ∀ t_, Steps p.tables e below (s₁.setTop (mkF m 0 #[.val (.int p1), .val (.int p2)] [])) t_ → Steps p.tables e below (s₁.setTop (entryFrame m #[(.int p1), (.int p2)] 2)) t_ := fun t_ k_ => castTop (ef_rmMax m p1 p2) k_
  have pre101 : ∀ t_, Steps p.tables e below (s₁.setTop (mkF m 2 #[.val (.int p1), .val (.int p2)] [(.int p2), (.int p1)])) t_ → Steps p.tables e below (s₁.setTop (entryFrame m #[(.int p1), (.int p2)] 2)) t_ := fun t_ k_ => pre0 _ (by
    show Steps p.tables e below (s₁.setTop (mkF m 0 #[.val (.int p1), .val (.int p2)] [])) _
    refine XS.iloadN X0.here hx rfl (hb hby d2_0) rfl ?_
    show Steps p.tables e below (s₁.setTop (mkF m 1 #[.val (.int p1), .val (.int p2)] [(.int p1)])) _
    refine XS.iloadN X0.here hx rfl (hb hby d2_1) rfl ?_
    exact k_)
  by_cases hc : p1 < p2
  · skip
    have pre102 : ∀ t_, Steps p.tables e below (s₁.setTop (mkF m 10 #[.val (.int p1), .val (.int p2)] [(.int p2)])) t_ → Steps p.tables e below (s₁.setTop (entryFrame m #[(.int p1), (.int p2)] 2)) t_ := fun t_ k_ => pre101 _ (by
      show Steps p.tables e below (s₁.setTop (mkF m 2 #[.val (.int p1), .val (.int p2)] [(.int p2), (.int p1)])) _
      refine XS.icmpYes X0.here hx rfl (pc0 := 2) (pc' := 9) rfl (hb hby d2_2) rfl (tlt hc).1 (by decide) (by decide) ?_
      show Steps p.tables e below (s₁.setTop (mkF m 9 #[.val (.int p1), .val (.int p2)] [])) _
      refine XS.iloadN X0.here hx rfl (hb hby d2_9) rfl ?_
      exact k_)
    obtain ⟨fs, hr, hrun, hended, hW, hsame⟩ := X0.leave (v := some (.int p2)) (fun h => by rw [Bd.returns] at h; cases h)
    refine ⟨_, _, pre102 _ ?_, hrun, hended, _, _, rfl, ?_, ⟨_, rfl⟩, hW, hsame.mono (by decide) (by decide)⟩
    · show Steps p.tables e below (s₁.setTop (mkF m 10 #[.val (.int p1), .val (.int p2)] [(.int p2)])) _
      exact retI X0 hx Bd.returns (hb hby d2_10) hr
    · show QrmMax Z p1 p2 h0 n0 _ s₁.heap _
      rw [e0]
      exact ⟨by rw [own_max, if_pos hc], N0, rfl⟩
  · skip
    have pre103 : ∀ t_, Steps p.tables e below (s₁.setTop (mkF m 10 #[.val (.int p1), .val (.int p2)] [(.int p1)])) t_ → Steps p.tables e below (s₁.setTop (entryFrame m #[(.int p1), (.int p2)] 2)) t_ := fun t_ k_ => pre101 _ (by
      show Steps p.tables e below (s₁.setTop (mkF m 2 #[.val (.int p1), .val (.int p2)] [(.int p2), (.int p1)])) _
      refine XS.icmpNo X0.here hx rfl (hb hby d2_2) rfl (flt hc).1 ?_
      show Steps p.tables e below (s₁.setTop (mkF m 5 #[.val (.int p1), .val (.int p2)] [])) _
      refine XS.iloadN X0.here hx rfl (hb hby d2_5) rfl ?_
      show Steps p.tables e below (s₁.setTop (mkF m 6 #[.val (.int p1), .val (.int p2)] [(.int p1)])) _
      refine XS.goto X0.here hx rfl (pc0 := 6) (pc' := 10) rfl (hb hby d2_6) (by decide) (by decide) ?_
      exact k_)
    obtain ⟨fs, hr, hrun, hended, hW, hsame⟩ := X0.leave (v := some (.int p1)) (fun h => by rw [Bd.returns] at h; cases h)
    refine ⟨_, _, pre103 _ ?_, hrun, hended, _, _, rfl, ?_, ⟨_, rfl⟩, hW, hsame.mono (by decide) (by decide)⟩
    · show Steps p.tables e below (s₁.setTop (mkF m 10 #[.val (.int p1), .val (.int p2)] [(.int p1)])) _
      exact retI X0 hx Bd.returns (hb hby d2_10) hr
    · show QrmMax Z p1 p2 h0 n0 _ s₁.heap _
      rw [e0]
      exact ⟨by rw [own_max, if_neg hc], N0, rfl⟩
theorem d4_0 : decode jdk_30_method_1_code 0 = .ok (.aload_n 0, 1) := by decide +kernel
theorem d4_1 : decode jdk_30_method_1_code 1 = .ok (.invokespecial 1, 3) := by decide +kernel
theorem d4_4 : decode jdk_30_method_1_code 4 = .ok (.return_, 1) := by decide +kernel
theorem pn_0 : plainName "java/lang/Record" = true := by first | (simp [plainName, overriddenIn]; done) | decide +kernel
theorem ef_rmR (m : MethodId) (x0 : Addr) : entryFrame m #[(.ref x0)] 1 = mkF m 0 #[.val (.ref x0)] [] := by first | (simp [entryFrame, mkF, argsToLocals, Value.category]; done) | rfl
def QrmR (Z : State) (a1 : Addr) (h0 : Heap) (n0 : Nat) (v : Option Value) (h : Heap) (L : List Loc) : Prop := v = none ∧ Fr n0 L ∧ h = h0
set_option maxRecDepth 65536 in
set_option maxHeartbeats 40000000 in
theorem rmR (l : Launch) (Z : State) (a0 : Array Value) (hw : ∀ d ∈ tables_1, d.before a0 Z = true) (ws : List Jvm.Cond) (a1 : Addr) (h0 : Heap) (n0 : Nat) (Z0 : n0 ≤ h0.size) :
    MetFree l (⟨"java/lang/Record", "<init>", "()V"⟩ : MethodName) (head1 (Jvm.Cond.code (⟨"java/lang/Record", "<init>", "()V"⟩ : MethodName) jdk_30_method_1_code 1 none :: ws) ({ frames := 1, cells := 0, slots := 0, locals := 12 } : Room)) (fun a U => a = #[(.ref a1)] ∧ Z.Warmed39 U.vm ∧ U.heap = h0) (fun _ _ _ _ _ => True) (fun _ U o U' => ∃ v L, o = .returned v ∧ QrmR Z a1 h0 n0 v U'.heap L ∧ FrameEnd U o U' L ({ frames := 1, cells := 0, slots := 0, locals := 12 } : Room).cells ({ frames := 1, cells := 0, slots := 0, locals := 12 } : Room).slots) := by
  refine MetFree.of_bodySF (plainFor_of_name pn_0) hisR ?_
  intro p e s m args below meth c s₁ Bd hml0 hP hK
  obtain ⟨rfl, hZ, hh⟩ := hP
  have hx := Bd.exec
  have hby := Bd.bytes
  have hml : c.maxLocals = 1 := hml0
  have hown : s.vm.findClass "java/lang/Record" = some m.cls := findClass_of_methodNamed Bd.named
  have hnm := (name_of_methodNamed Bd.named Bd.method).1
  have X0 : Stand p l e ({ frames := 1, cells := 0, slots := 0, locals := 12 } : Room) s m #[(.ref a1)] below meth c s₁ [] 0 0 := Stand.of_body Bd
  have e0 : s₁.heap = h0 := by rw [← hh, Bd.state]; rfl
  have N0 := Fr.nil n0
  have pre0 : ∀ t_, Steps p.tables e below (s₁.setTop (mkF m 0 #[.val (.ref a1)] [])) t_ → Steps p.tables e below (s₁.setTop (entryFrame m #[(.ref a1)] 1)) t_ := fun t_ k_ => castTop (ef_rmR m a1) k_
  obtain ⟨T101, X101, e101, st101⟩ := initO X0 hx hZ hown (hw _ (List.mem_of_getElem? (i := 18) rfl)) (hw _ (List.mem_of_getElem? (i := 19) rfl)) (hw _ (List.mem_of_getElem? (i := 20) rfl)) e0 (g := (mkF m 1 #[.val (.ref a1)] [(.ref a1)])) rfl (by rw [hml]; rfl) rfl (hb hby d4_1) (by decide) (W := 0) (by show 2 * 0 + _ ≤ _; exact Nat.le_of_eq rfl) (by decide)
  have pre102 : ∀ t_, Steps p.tables e below (T101.setTop (mkF m 4 #[.val (.ref a1)] [])) t_ → Steps p.tables e below (s₁.setTop (entryFrame m #[(.ref a1)] 1)) t_ := fun t_ k_ => pre0 _ (by
    show Steps p.tables e below (s₁.setTop (mkF m 0 #[.val (.ref a1)] [])) _
    refine XS.aloadN X0.here hx rfl (hb hby d4_0) rfl rfl ?_
    show Steps p.tables e below (s₁.setTop (mkF m 1 #[.val (.ref a1)] [(.ref a1)])) _
    refine st101 _ ?_
    exact k_)
  obtain ⟨fs, hr, hrun, hended, hW, hsame⟩ := X101.leave (v := none) (fun _ => rfl)
  refine ⟨_, _, pre102 _ ?_, hrun, hended, _, _, rfl, ?_, ⟨_, rfl⟩, hW, hsame.mono (by decide) (by decide)⟩
  · show Steps p.tables e below (T101.setTop (mkF m 4 #[.val (.ref a1)] [])) _
    exact X101.returnOut hx Bd.returns (hb hby d4_4) hr
  · show QrmR Z a1 h0 n0 _ T101.heap _
    rw [e101]
    exact ⟨rfl, N0, rfl⟩
theorem pd_0 : parseMethodDescriptor "()V" = some ⟨[], none⟩ := by decide +kernel
theorem d3_0 : decode prog_34_method_1_code 0 = .ok (.aload_n 0, 1) := by decide +kernel
theorem d3_1 : decode prog_34_method_1_code 1 = .ok (.invokespecial 1, 3) := by decide +kernel
theorem d3_4 : decode prog_34_method_1_code 4 = .ok (.aload_n 0, 1) := by decide +kernel
theorem d3_5 : decode prog_34_method_1_code 5 = .ok (.dload_n 1, 1) := by decide +kernel
theorem d3_6 : decode prog_34_method_1_code 6 = .ok (.putfield 7, 3) := by decide +kernel
theorem d3_9 : decode prog_34_method_1_code 9 = .ok (.aload_n 0, 1) := by decide +kernel
theorem d3_10 : decode prog_34_method_1_code 10 = .ok (.dload_n 3, 1) := by decide +kernel
theorem d3_11 : decode prog_34_method_1_code 11 = .ok (.putfield 13, 3) := by decide +kernel
theorem d3_14 : decode prog_34_method_1_code 14 = .ok (.aload_n 0, 1) := by decide +kernel
theorem d3_15 : decode prog_34_method_1_code 15 = .ok (.dload 5, 2) := by decide +kernel
theorem d3_17 : decode prog_34_method_1_code 17 = .ok (.putfield 16, 3) := by decide +kernel
theorem d3_20 : decode prog_34_method_1_code 20 = .ok (.aload_n 0, 1) := by decide +kernel
theorem d3_21 : decode prog_34_method_1_code 21 = .ok (.dload 7, 2) := by decide +kernel
theorem d3_23 : decode prog_34_method_1_code 23 = .ok (.putfield 19, 3) := by decide +kernel
theorem d3_26 : decode prog_34_method_1_code 26 = .ok (.return_, 1) := by decide +kernel
theorem pn_1 : plainName "com/example/wakeline/wakeline/model/Box" = true := by first | (simp [plainName, overriddenIn]; done) | decide +kernel
theorem ef_rmC (m : MethodId) (x0 : Addr) (x1 : UInt64) (x2 : UInt64) (x3 : UInt64) (x4 : UInt64) : entryFrame m #[(.ref x0), (.double x1), (.double x2), (.double x3), (.double x4)] 9 = mkF m 0 #[.val (.ref x0), .val (.double x1), .second, .val (.double x2), .second, .val (.double x3), .second, .val (.double x4), .second] [] := by first | (simp [entryFrame, mkF, argsToLocals, Value.category]; done) | rfl
def QrmC (Z : State) (a1 : Addr) (f2 : UInt64) (f3 : UInt64) (f4 : UInt64) (f5 : UInt64) (h0 : Heap) (n0 : Nat) (v : Option Value) (h : Heap) (L : List Loc) : Prop := v = none ∧ Fr n0 L ∧ Keep h0 h [a1] ∧ Exa Z h a1 "com/example/wakeline/wakeline/model/Box" ∧ Fld Z h a1 "com/example/wakeline/wakeline/model/Box" "xmin" "D" (.double f2) ∧ Fld Z h a1 "com/example/wakeline/wakeline/model/Box" "ymin" "D" (.double f3) ∧ Fld Z h a1 "com/example/wakeline/wakeline/model/Box" "xmax" "D" (.double f4) ∧ Fld Z h a1 "com/example/wakeline/wakeline/model/Box" "ymax" "D" (.double f5)
set_option maxRecDepth 65536 in
set_option maxHeartbeats 40000000 in
theorem rmC (l : Launch) (Z : State) (a0 : Array Value) (hw : ∀ d ∈ tables_1, d.before a0 Z = true) (ws : List Jvm.Cond) (a1 : Addr) (f2 : UInt64) (f3 : UInt64) (f4 : UInt64) (f5 : UInt64) (h0 : Heap) (n0 : Nat) (Z0 : n0 ≤ h0.size) (E_o : Exa Z h0 a1 "com/example/wakeline/wakeline/model/Box") (F_0 : Fld Z h0 a1 "com/example/wakeline/wakeline/model/Box" "xmin" "D" (.double 0)) (F_1 : Fld Z h0 a1 "com/example/wakeline/wakeline/model/Box" "ymin" "D" (.double 0)) (F_2 : Fld Z h0 a1 "com/example/wakeline/wakeline/model/Box" "xmax" "D" (.double 0)) (F_3 : Fld Z h0 a1 "com/example/wakeline/wakeline/model/Box" "ymax" "D" (.double 0)) (g_a1 : n0 ≤ a1) :
    MetFree l (⟨"com/example/wakeline/wakeline/model/Box", "<init>", "(DDDD)V"⟩ : MethodName) (head1 (Jvm.Cond.code (⟨"com/example/wakeline/wakeline/model/Box", "<init>", "(DDDD)V"⟩ : MethodName) prog_34_method_1_code 9 none :: ws) ({ frames := 2, cells := 0, slots := 0, locals := 24 } : Room)) (fun a U => a = #[(.ref a1), (.double f2), (.double f3), (.double f4), (.double f5)] ∧ Z.Warmed39 U.vm ∧ U.heap = h0) (fun _ _ _ _ _ => True) (fun _ U o U' => ∃ v L, o = .returned v ∧ QrmC Z a1 f2 f3 f4 f5 h0 n0 v U'.heap L ∧ FrameEnd U o U' L ({ frames := 2, cells := 0, slots := 0, locals := 24 } : Room).cells ({ frames := 2, cells := 0, slots := 0, locals := 24 } : Room).slots) := by
  refine MetFree.of_bodySF (plainFor_of_name pn_1) hisR ?_
  intro p e s m args below meth c s₁ Bd hml0 hP hK
  obtain ⟨rfl, hZ, hh⟩ := hP
  have hx := Bd.exec
  have hby := Bd.bytes
  have hml : c.maxLocals = 9 := hml0
  have hown : s.vm.findClass "com/example/wakeline/wakeline/model/Box" = some m.cls := findClass_of_methodNamed Bd.named
  have hnm := (name_of_methodNamed Bd.named Bd.method).1
  have X0 : Stand p l e ({ frames := 2, cells := 0, slots := 0, locals := 24 } : Room) s m #[(.ref a1), (.double f2), (.double f3), (.double f4), (.double f5)] below meth c s₁ [] 0 0 := Stand.of_body Bd
  have e0 : s₁.heap = h0 := by rw [← hh, Bd.state]; rfl
  have N0 := Fr.nil n0
  have pre0 : ∀ t_, Steps p.tables e below (s₁.setTop (mkF m 0 #[.val (.ref a1), .val (.double f2), .second, .val (.double f3), .second, .val (.double f4), .second, .val (.double f5), .second] [])) t_ → Steps p.tables e below (s₁.setTop (entryFrame m #[(.ref a1), (.double f2), (.double f3), (.double f4), (.double f5)] 9)) t_ := fun t_ k_ => castTop (ef_rmC m a1 f2 f3 f4 f5) k_
  obtain ⟨_, _, ⟨T101, L101, k101, n101⟩, -, X101, ⟨Lc101, hQ101, l101, y101, z101⟩, st101⟩ := X0.specialBack hx (y := (⟨"java/lang/Record", "<init>", "()V"⟩ : MethodName)) rfl hown (mvT hZ (hw _ (List.mem_of_getElem? (i := 13) rfl))) (mvT hZ (hw _ (List.mem_of_getElem? (i := 14) rfl))) (mvT hZ (hw _ (List.mem_of_getElem? (i := 17) rfl))) (by decide) (backOf (W := 0) (rmR l Z a0 hw [] a1 h0 n0 Z0 ) hZ (hw _ (List.mem_of_getElem? (i := 17) rfl)) (hw _ (List.mem_of_getElem? (i := 16) rfl)) (by decide) (by decide)) (g := (mkF m 1 #[.val (.ref a1), .val (.double f2), .second, .val (.double f3), .second, .val (.double f4), .second, .val (.double f5), .second] [(.ref a1)])) rfl (by rw [hml]; rfl) (Steps.refl _) (a := a1) (argsL := []) (rest := []) (lenOf pd_0 rfl) rfl (by show 2 * 0 + _ ≤ _; exact Nat.le_of_eq rfl) (hb hby d3_1) (fun _ _ => ⟨rfl, e0, (by decide : 0 + 0 ≤ _), (by decide : 0 + 0 ≤ _)⟩)
  dsimp only [Pt.U, Pt.locs, Pt.cells, Pt.slots] at X101 l101 y101 z101 st101 hQ101
  subst l101 y101 z101
  obtain ⟨rfl, N101q, e101⟩ := hQ101
  have N101 := Fr.app N0 N101q
  obtain ⟨T102, h102, X102, e102, W102, st102⟩ := putF X101 hx hZ hown (host := "") (Or.inl (hw _ (List.mem_of_getElem? (i := 21) rfl))) Via.refl e101 F_0 E_o (Or.inr ⟨(hw _ (List.mem_of_getElem? (i := 22) rfl)), rfl, hnm⟩) (hw _ (List.mem_of_getElem? (i := 8) rfl)) (ty := .double) (by decide) rfl rfl (g := (mkF m 6 #[.val (.ref a1), .val (.double f2), .second, .val (.double f3), .second, .val (.double f4), .second, .val (.double f5), .second] [(.double f2), (.ref a1)])) rfl rfl (hb hby d3_6)
  have F1_103 := F_1.other W102 (Or.inr (slot_ne (Or.inr (hw _ (List.mem_of_getElem? (i := 24) rfl))) (Or.inr (hw _ (List.mem_of_getElem? (i := 22) rfl))) (by decide) (t := .double) (t' := .double) (by decide) (by decide)))
  have F2_104 := F_2.other W102 (Or.inr (slot_ne (Or.inr (hw _ (List.mem_of_getElem? (i := 26) rfl))) (Or.inr (hw _ (List.mem_of_getElem? (i := 22) rfl))) (by decide) (t := .double) (t' := .double) (by decide) (by decide)))
  have F3_105 := F_3.other W102 (Or.inr (slot_ne (Or.inr (hw _ (List.mem_of_getElem? (i := 28) rfl))) (Or.inr (hw _ (List.mem_of_getElem? (i := 22) rfl))) (by decide) (t := .double) (t' := .double) (by decide) (by decide)))
  have E_106 := E_o.wr W102
  have K_107 := (Keep.refl h0 [a1]).wr W102 (Or.inl (List.mem_of_getElem? (i := 0) rfl))
  have F0_108 := F_0.same W102
  have N102 := Fr.snoc X102 N101 g_a1
  have Z109 : n0 ≤ h102.size := Nat.le_trans Z0 ((Keep.of_wr W102).1)
  obtain ⟨T110, h110, X110, e110, W110, st110⟩ := putF X102 hx hZ hown (host := "") (Or.inl (hw _ (List.mem_of_getElem? (i := 23) rfl))) Via.refl e102 F1_103 E_106 (Or.inr ⟨(hw _ (List.mem_of_getElem? (i := 24) rfl)), rfl, hnm⟩) (hw _ (List.mem_of_getElem? (i := 8) rfl)) (ty := .double) (by decide) rfl rfl (g := (mkF m 11 #[.val (.ref a1), .val (.double f2), .second, .val (.double f3), .second, .val (.double f4), .second, .val (.double f5), .second] [(.double f3), (.ref a1)])) rfl rfl (hb hby d3_11)
  have F0_111 := F0_108.other W110 (Or.inr (slot_ne (Or.inr (hw _ (List.mem_of_getElem? (i := 22) rfl))) (Or.inr (hw _ (List.mem_of_getElem? (i := 24) rfl))) (by decide) (t := .double) (t' := .double) (by decide) (by decide)))
  have F2_112 := F2_104.other W110 (Or.inr (slot_ne (Or.inr (hw _ (List.mem_of_getElem? (i := 26) rfl))) (Or.inr (hw _ (List.mem_of_getElem? (i := 24) rfl))) (by decide) (t := .double) (t' := .double) (by decide) (by decide)))
  have F3_113 := F3_105.other W110 (Or.inr (slot_ne (Or.inr (hw _ (List.mem_of_getElem? (i := 28) rfl))) (Or.inr (hw _ (List.mem_of_getElem? (i := 24) rfl))) (by decide) (t := .double) (t' := .double) (by decide) (by decide)))
  have E_114 := E_106.wr W110
  have K_115 := K_107.wr W110 (Or.inl (List.mem_of_getElem? (i := 0) rfl))
  have F1_116 := F1_103.same W110
  have N110 := Fr.snoc X110 N102 g_a1
  have Z117 : n0 ≤ h110.size := Nat.le_trans Z109 ((Keep.of_wr W110).1)
  obtain ⟨T118, h118, X118, e118, W118, st118⟩ := putF X110 hx hZ hown (host := "") (Or.inl (hw _ (List.mem_of_getElem? (i := 25) rfl))) Via.refl e110 F2_112 E_114 (Or.inr ⟨(hw _ (List.mem_of_getElem? (i := 26) rfl)), rfl, hnm⟩) (hw _ (List.mem_of_getElem? (i := 8) rfl)) (ty := .double) (by decide) rfl rfl (g := (mkF m 17 #[.val (.ref a1), .val (.double f2), .second, .val (.double f3), .second, .val (.double f4), .second, .val (.double f5), .second] [(.double f4), (.ref a1)])) rfl rfl (hb hby d3_17)
  have F0_119 := F0_111.other W118 (Or.inr (slot_ne (Or.inr (hw _ (List.mem_of_getElem? (i := 22) rfl))) (Or.inr (hw _ (List.mem_of_getElem? (i := 26) rfl))) (by decide) (t := .double) (t' := .double) (by decide) (by decide)))
  have F1_120 := F1_116.other W118 (Or.inr (slot_ne (Or.inr (hw _ (List.mem_of_getElem? (i := 24) rfl))) (Or.inr (hw _ (List.mem_of_getElem? (i := 26) rfl))) (by decide) (t := .double) (t' := .double) (by decide) (by decide)))
  have F3_121 := F3_113.other W118 (Or.inr (slot_ne (Or.inr (hw _ (List.mem_of_getElem? (i := 28) rfl))) (Or.inr (hw _ (List.mem_of_getElem? (i := 26) rfl))) (by decide) (t := .double) (t' := .double) (by decide) (by decide)))
  have E_122 := E_114.wr W118
  have K_123 := K_115.wr W118 (Or.inl (List.mem_of_getElem? (i := 0) rfl))
  have F2_124 := F2_112.same W118
  have N118 := Fr.snoc X118 N110 g_a1
  have Z125 : n0 ≤ h118.size := Nat.le_trans Z117 ((Keep.of_wr W118).1)
  obtain ⟨T126, h126, X126, e126, W126, st126⟩ := putF X118 hx hZ hown (host := "") (Or.inl (hw _ (List.mem_of_getElem? (i := 27) rfl))) Via.refl e118 F3_121 E_122 (Or.inr ⟨(hw _ (List.mem_of_getElem? (i := 28) rfl)), rfl, hnm⟩) (hw _ (List.mem_of_getElem? (i := 8) rfl)) (ty := .double) (by decide) rfl rfl (g := (mkF m 23 #[.val (.ref a1), .val (.double f2), .second, .val (.double f3), .second, .val (.double f4), .second, .val (.double f5), .second] [(.double f5), (.ref a1)])) rfl rfl (hb hby d3_23)
  have F0_127 := F0_119.other W126 (Or.inr (slot_ne (Or.inr (hw _ (List.mem_of_getElem? (i := 22) rfl))) (Or.inr (hw _ (List.mem_of_getElem? (i := 28) rfl))) (by decide) (t := .double) (t' := .double) (by decide) (by decide)))
  have F1_128 := F1_120.other W126 (Or.inr (slot_ne (Or.inr (hw _ (List.mem_of_getElem? (i := 24) rfl))) (Or.inr (hw _ (List.mem_of_getElem? (i := 28) rfl))) (by decide) (t := .double) (t' := .double) (by decide) (by decide)))
  have F2_129 := F2_124.other W126 (Or.inr (slot_ne (Or.inr (hw _ (List.mem_of_getElem? (i := 26) rfl))) (Or.inr (hw _ (List.mem_of_getElem? (i := 28) rfl))) (by decide) (t := .double) (t' := .double) (by decide) (by decide)))
  have E_130 := E_122.wr W126
  have K_131 := K_123.wr W126 (Or.inl (List.mem_of_getElem? (i := 0) rfl))
  have F3_132 := F3_121.same W126
  have N126 := Fr.snoc X126 N118 g_a1
  have Z133 : n0 ≤ h126.size := Nat.le_trans Z125 ((Keep.of_wr W126).1)
  have pre134 : ∀ t_, Steps p.tables e below (T126.setTop (mkF m 26 #[.val (.ref a1), .val (.double f2), .second, .val (.double f3), .second, .val (.double f4), .second, .val (.double f5), .second] [])) t_ → Steps p.tables e below (s₁.setTop (entryFrame m #[(.ref a1), (.double f2), (.double f3), (.double f4), (.double f5)] 9)) t_ := fun t_ k_ => pre0 _ (by
    show Steps p.tables e below (s₁.setTop (mkF m 0 #[.val (.ref a1), .val (.double f2), .second, .val (.double f3), .second, .val (.double f4), .second, .val (.double f5), .second] [])) _
    refine XS.aloadN X0.here hx rfl (hb hby d3_0) rfl rfl ?_
    show Steps p.tables e below (s₁.setTop (mkF m 1 #[.val (.ref a1), .val (.double f2), .second, .val (.double f3), .second, .val (.double f4), .second, .val (.double f5), .second] [(.ref a1)])) _
    refine st101.trans ?_
    show Steps p.tables e below (T101.setTop (mkF m 4 #[.val (.ref a1), .val (.double f2), .second, .val (.double f3), .second, .val (.double f4), .second, .val (.double f5), .second] [])) _
    refine XS.aloadN X101.here hx rfl (hb hby d3_4) rfl rfl ?_
    show Steps p.tables e below (T101.setTop (mkF m 5 #[.val (.ref a1), .val (.double f2), .second, .val (.double f3), .second, .val (.double f4), .second, .val (.double f5), .second] [(.ref a1)])) _
    refine XS.dloadN X101.here hx rfl (hb hby d3_5) rfl ?_
    show Steps p.tables e below (T101.setTop (mkF m 6 #[.val (.ref a1), .val (.double f2), .second, .val (.double f3), .second, .val (.double f4), .second, .val (.double f5), .second] [(.double f2), (.ref a1)])) _
    refine st102 _ ?_
    show Steps p.tables e below (T102.setTop (mkF m 9 #[.val (.ref a1), .val (.double f2), .second, .val (.double f3), .second, .val (.double f4), .second, .val (.double f5), .second] [])) _
    refine XS.aloadN X102.here hx rfl (hb hby d3_9) rfl rfl ?_
    show Steps p.tables e below (T102.setTop (mkF m 10 #[.val (.ref a1), .val (.double f2), .second, .val (.double f3), .second, .val (.double f4), .second, .val (.double f5), .second] [(.ref a1)])) _
    refine XS.dloadN X102.here hx rfl (hb hby d3_10) rfl ?_
    show Steps p.tables e below (T102.setTop (mkF m 11 #[.val (.ref a1), .val (.double f2), .second, .val (.double f3), .second, .val (.double f4), .second, .val (.double f5), .second] [(.double f3), (.ref a1)])) _
    refine st110 _ ?_
    show Steps p.tables e below (T110.setTop (mkF m 14 #[.val (.ref a1), .val (.double f2), .second, .val (.double f3), .second, .val (.double f4), .second, .val (.double f5), .second] [])) _
    refine XS.aloadN X110.here hx rfl (hb hby d3_14) rfl rfl ?_
    show Steps p.tables e below (T110.setTop (mkF m 15 #[.val (.ref a1), .val (.double f2), .second, .val (.double f3), .second, .val (.double f4), .second, .val (.double f5), .second] [(.ref a1)])) _
    refine XS.dload X110.here hx rfl (hb hby d3_15) rfl ?_
    show Steps p.tables e below (T110.setTop (mkF m 17 #[.val (.ref a1), .val (.double f2), .second, .val (.double f3), .second, .val (.double f4), .second, .val (.double f5), .second] [(.double f4), (.ref a1)])) _
    refine st118 _ ?_
    show Steps p.tables e below (T118.setTop (mkF m 20 #[.val (.ref a1), .val (.double f2), .second, .val (.double f3), .second, .val (.double f4), .second, .val (.double f5), .second] [])) _
    refine XS.aloadN X118.here hx rfl (hb hby d3_20) rfl rfl ?_
    show Steps p.tables e below (T118.setTop (mkF m 21 #[.val (.ref a1), .val (.double f2), .second, .val (.double f3), .second, .val (.double f4), .second, .val (.double f5), .second] [(.ref a1)])) _
    refine XS.dload X118.here hx rfl (hb hby d3_21) rfl ?_
    show Steps p.tables e below (T118.setTop (mkF m 23 #[.val (.ref a1), .val (.double f2), .second, .val (.double f3), .second, .val (.double f4), .second, .val (.double f5), .second] [(.double f5), (.ref a1)])) _
    refine st126 _ ?_
    exact k_)
  obtain ⟨fs, hr, hrun, hended, hW, hsame⟩ := X126.leave (v := none) (fun _ => rfl)
  refine ⟨_, _, pre134 _ ?_, hrun, hended, _, _, rfl, ?_, ⟨_, rfl⟩, hW, hsame.mono (by decide) (by decide)⟩
  · show Steps p.tables e below (T126.setTop (mkF m 26 #[.val (.ref a1), .val (.double f2), .second, .val (.double f3), .second, .val (.double f4), .second, .val (.double f5), .second] [])) _
    exact X126.returnOut hx Bd.returns (hb hby d3_26) hr
  · show QrmC Z a1 f2 f3 f4 f5 h0 n0 _ T126.heap _
    rw [e126]
    exact ⟨rfl, N126, K_131, E_130, F0_127, F1_128, F2_129, F3_132⟩
theorem d7_0 : decode method_2_code 0 = .ok (.iload_n 0, 1) := by decide +kernel
theorem d7_1 : decode method_2_code 1 = .ok (.iload 4, 2) := by decide +kernel
theorem d7_3 : decode method_2_code 3 = .ok (.if_icmp .gt 25, 3) := by decide +kernel
theorem d7_6 : decode method_2_code 6 = .ok (.iload 4, 2) := by decide +kernel
theorem d7_8 : decode method_2_code 8 = .ok (.iload_n 2, 1) := by decide +kernel
theorem d7_9 : decode method_2_code 9 = .ok (.if_icmp .gt 19, 3) := by decide +kernel
theorem d7_12 : decode method_2_code 12 = .ok (.iload_n 1, 1) := by decide +kernel
theorem d7_13 : decode method_2_code 13 = .ok (.iload 5, 2) := by decide +kernel
theorem d7_15 : decode method_2_code 15 = .ok (.if_icmp .gt 13, 3) := by decide +kernel
theorem d7_18 : decode method_2_code 18 = .ok (.iload 5, 2) := by decide +kernel
theorem d7_20 : decode method_2_code 20 = .ok (.iload_n 3, 1) := by decide +kernel
theorem d7_21 : decode method_2_code 21 = .ok (.if_icmp .gt 7, 3) := by decide +kernel
theorem d7_24 : decode method_2_code 24 = .ok (.iconst 1, 1) := by decide +kernel
theorem d7_25 : decode method_2_code 25 = .ok (.goto 4, 3) := by decide +kernel
theorem d7_28 : decode method_2_code 28 = .ok (.iconst 0, 1) := by decide +kernel
theorem d7_29 : decode method_2_code 29 = .ok (.ireturn, 1) := by decide +kernel
theorem pn_2 : plainName "com/example/wakeline/wakeline/model/BoxContainsPinLaw" = true := by first | (simp [plainName, overriddenIn]; done) | decide +kernel
theorem ef_rmIn (m : MethodId) (x0 : Int32) (x1 : Int32) (x2 : Int32) (x3 : Int32) (x4 : Int32) (x5 : Int32) : entryFrame m #[(.int x0), (.int x1), (.int x2), (.int x3), (.int x4), (.int x5)] 6 = mkF m 0 #[.val (.int x0), .val (.int x1), .val (.int x2), .val (.int x3), .val (.int x4), .val (.int x5)] [] := by first | (simp [entryFrame, mkF, argsToLocals, Value.category]; done) | rfl
def QrmIn (Z : State) (p1 : Int32) (p2 : Int32) (p3 : Int32) (p4 : Int32) (p5 : Int32) (p6 : Int32) (h0 : Heap) (n0 : Nat) (v : Option Value) (h : Heap) (L : List Loc) : Prop := v = some (.int (own_in p1 p2 p3 p4 p5 p6)) ∧ Fr n0 L ∧ h = h0
set_option maxRecDepth 65536 in
set_option maxHeartbeats 40000000 in
theorem rmIn (l : Launch) (Z : State) (a0 : Array Value) (hw : ∀ d ∈ tables_1, d.before a0 Z = true) (ws : List Jvm.Cond) (p1 : Int32) (p2 : Int32) (p3 : Int32) (p4 : Int32) (p5 : Int32) (p6 : Int32) (h0 : Heap) (n0 : Nat) (Z0 : n0 ≤ h0.size) :
    MetFree l (⟨"com/example/wakeline/wakeline/model/BoxContainsPinLaw", "in", "(IIIIII)Z"⟩ : MethodName) (head1 (Jvm.Cond.code (⟨"com/example/wakeline/wakeline/model/BoxContainsPinLaw", "in", "(IIIIII)Z"⟩ : MethodName) method_2_code 6 (some .boolean) :: ws) ({ frames := 0, cells := 0, slots := 0, locals := 0 } : Room)) (fun a U => a = #[(.int p1), (.int p2), (.int p3), (.int p4), (.int p5), (.int p6)] ∧ Z.Warmed39 U.vm ∧ U.heap = h0) (fun _ _ _ _ _ => True) (fun _ U o U' => ∃ v L, o = .returned v ∧ QrmIn Z p1 p2 p3 p4 p5 p6 h0 n0 v U'.heap L ∧ FrameEnd U o U' L ({ frames := 0, cells := 0, slots := 0, locals := 0 } : Room).cells ({ frames := 0, cells := 0, slots := 0, locals := 0 } : Room).slots) := by
  refine MetFree.of_bodySF (plainFor_of_name pn_2) hisR ?_
  intro p e s m args below meth c s₁ Bd hml0 hP hK
  obtain ⟨rfl, hZ, hh⟩ := hP
  have hx := Bd.exec
  have hby := Bd.bytes
  have hml : c.maxLocals = 6 := hml0
  have hown : s.vm.findClass "com/example/wakeline/wakeline/model/BoxContainsPinLaw" = some m.cls := findClass_of_methodNamed Bd.named
  have hnm := (name_of_methodNamed Bd.named Bd.method).1
  have X0 : Stand p l e ({ frames := 0, cells := 0, slots := 0, locals := 0 } : Room) s m #[(.int p1), (.int p2), (.int p3), (.int p4), (.int p5), (.int p6)] below meth c s₁ [] 0 0 := Stand.of_body Bd
  have e0 : s₁.heap = h0 := by rw [← hh, Bd.state]; rfl
  have N0 := Fr.nil n0
  have pre0 : ∀ t_, Steps p.tables e below (s₁.setTop (mkF m 0 #[.val (.int p1), .val (.int p2), .val (.int p3), .val (.int p4), .val (.int p5), .val (.int p6)] [])) t_ → Steps p.tables e below (s₁.setTop (entryFrame m #[(.int p1), (.int p2), (.int p3), (.int p4), (.int p5), (.int p6)] 6)) t_ := fun t_ k_ => castTop (ef_rmIn m p1 p2 p3 p4 p5 p6) k_
  have pre101 : ∀ t_, Steps p.tables e below (s₁.setTop (mkF m 3 #[.val (.int p1), .val (.int p2), .val (.int p3), .val (.int p4), .val (.int p5), .val (.int p6)] [(.int p5), (.int p1)])) t_ → Steps p.tables e below (s₁.setTop (entryFrame m #[(.int p1), (.int p2), (.int p3), (.int p4), (.int p5), (.int p6)] 6)) t_ := fun t_ k_ => pre0 _ (by
    show Steps p.tables e below (s₁.setTop (mkF m 0 #[.val (.int p1), .val (.int p2), .val (.int p3), .val (.int p4), .val (.int p5), .val (.int p6)] [])) _
    refine XS.iloadN X0.here hx rfl (hb hby d7_0) rfl ?_
    show Steps p.tables e below (s₁.setTop (mkF m 1 #[.val (.int p1), .val (.int p2), .val (.int p3), .val (.int p4), .val (.int p5), .val (.int p6)] [(.int p1)])) _
    refine XS.iload X0.here hx rfl (hb hby d7_1) rfl ?_
    exact k_)
  by_cases hc0 : p5 < p1
  · skip
    have pre102 : ∀ t_, Steps p.tables e below (s₁.setTop (mkF m 29 #[.val (.int p1), .val (.int p2), .val (.int p3), .val (.int p4), .val (.int p5), .val (.int p6)] [(.int (0 : Int32))])) t_ → Steps p.tables e below (s₁.setTop (entryFrame m #[(.int p1), (.int p2), (.int p3), (.int p4), (.int p5), (.int p6)] 6)) t_ := fun t_ k_ => pre101 _ (by
      show Steps p.tables e below (s₁.setTop (mkF m 3 #[.val (.int p1), .val (.int p2), .val (.int p3), .val (.int p4), .val (.int p5), .val (.int p6)] [(.int p5), (.int p1)])) _
      refine XS.icmpYes X0.here hx rfl (pc0 := 3) (pc' := 28) rfl (hb hby d7_3) rfl (tlt hc0).2.2.1 (by decide) (by decide) ?_
      show Steps p.tables e below (s₁.setTop (mkF m 28 #[.val (.int p1), .val (.int p2), .val (.int p3), .val (.int p4), .val (.int p5), .val (.int p6)] [])) _
      refine XS.iconst X0.here hx rfl (hb hby d7_28) ?_
      exact k_)
    obtain ⟨fs, hr, hrun, hended, hW, hsame⟩ := X0.leave (v := some (.int (0 : Int32))) (fun h => by rw [Bd.returns] at h; cases h)
    refine ⟨_, _, pre102 _ ?_, hrun, hended, _, _, rfl, ?_, ⟨_, rfl⟩, hW, hsame.mono (by decide) (by decide)⟩
    · show Steps p.tables e below (s₁.setTop (mkF m 29 #[.val (.int p1), .val (.int p2), .val (.int p3), .val (.int p4), .val (.int p5), .val (.int p6)] [(.int (0 : Int32))])) _
      exact retN X0 hx (t := .boolean) Bd.returns (by simp) (hb hby d7_29) hr
    · show QrmIn Z p1 p2 p3 p4 p5 p6 h0 n0 _ s₁.heap _
      rw [e0]
      exact ⟨by rw [own_in, if_pos hc0], N0, rfl⟩
  · skip
    have pre103 : ∀ t_, Steps p.tables e below (s₁.setTop (mkF m 9 #[.val (.int p1), .val (.int p2), .val (.int p3), .val (.int p4), .val (.int p5), .val (.int p6)] [(.int p3), (.int p5)])) t_ → Steps p.tables e below (s₁.setTop (entryFrame m #[(.int p1), (.int p2), (.int p3), (.int p4), (.int p5), (.int p6)] 6)) t_ := fun t_ k_ => pre101 _ (by
      show Steps p.tables e below (s₁.setTop (mkF m 3 #[.val (.int p1), .val (.int p2), .val (.int p3), .val (.int p4), .val (.int p5), .val (.int p6)] [(.int p5), (.int p1)])) _
      refine XS.icmpNo X0.here hx rfl (hb hby d7_3) rfl (flt hc0).2.2.1 ?_
      show Steps p.tables e below (s₁.setTop (mkF m 6 #[.val (.int p1), .val (.int p2), .val (.int p3), .val (.int p4), .val (.int p5), .val (.int p6)] [])) _
      refine XS.iload X0.here hx rfl (hb hby d7_6) rfl ?_
      show Steps p.tables e below (s₁.setTop (mkF m 8 #[.val (.int p1), .val (.int p2), .val (.int p3), .val (.int p4), .val (.int p5), .val (.int p6)] [(.int p5)])) _
      refine XS.iloadN X0.here hx rfl (hb hby d7_8) rfl ?_
      exact k_)
    by_cases hc1 : p3 < p5
    · skip
      have pre104 : ∀ t_, Steps p.tables e below (s₁.setTop (mkF m 29 #[.val (.int p1), .val (.int p2), .val (.int p3), .val (.int p4), .val (.int p5), .val (.int p6)] [(.int (0 : Int32))])) t_ → Steps p.tables e below (s₁.setTop (entryFrame m #[(.int p1), (.int p2), (.int p3), (.int p4), (.int p5), (.int p6)] 6)) t_ := fun t_ k_ => pre103 _ (by
        show Steps p.tables e below (s₁.setTop (mkF m 9 #[.val (.int p1), .val (.int p2), .val (.int p3), .val (.int p4), .val (.int p5), .val (.int p6)] [(.int p3), (.int p5)])) _
        refine XS.icmpYes X0.here hx rfl (pc0 := 9) (pc' := 28) rfl (hb hby d7_9) rfl (tlt hc1).2.2.1 (by decide) (by decide) ?_
        show Steps p.tables e below (s₁.setTop (mkF m 28 #[.val (.int p1), .val (.int p2), .val (.int p3), .val (.int p4), .val (.int p5), .val (.int p6)] [])) _
        refine XS.iconst X0.here hx rfl (hb hby d7_28) ?_
        exact k_)
      obtain ⟨fs, hr, hrun, hended, hW, hsame⟩ := X0.leave (v := some (.int (0 : Int32))) (fun h => by rw [Bd.returns] at h; cases h)
      refine ⟨_, _, pre104 _ ?_, hrun, hended, _, _, rfl, ?_, ⟨_, rfl⟩, hW, hsame.mono (by decide) (by decide)⟩
      · show Steps p.tables e below (s₁.setTop (mkF m 29 #[.val (.int p1), .val (.int p2), .val (.int p3), .val (.int p4), .val (.int p5), .val (.int p6)] [(.int (0 : Int32))])) _
        exact retN X0 hx (t := .boolean) Bd.returns (by simp) (hb hby d7_29) hr
      · show QrmIn Z p1 p2 p3 p4 p5 p6 h0 n0 _ s₁.heap _
        rw [e0]
        exact ⟨by rw [own_in, if_neg hc0, if_pos hc1], N0, rfl⟩
    · skip
      have pre105 : ∀ t_, Steps p.tables e below (s₁.setTop (mkF m 15 #[.val (.int p1), .val (.int p2), .val (.int p3), .val (.int p4), .val (.int p5), .val (.int p6)] [(.int p6), (.int p2)])) t_ → Steps p.tables e below (s₁.setTop (entryFrame m #[(.int p1), (.int p2), (.int p3), (.int p4), (.int p5), (.int p6)] 6)) t_ := fun t_ k_ => pre103 _ (by
        show Steps p.tables e below (s₁.setTop (mkF m 9 #[.val (.int p1), .val (.int p2), .val (.int p3), .val (.int p4), .val (.int p5), .val (.int p6)] [(.int p3), (.int p5)])) _
        refine XS.icmpNo X0.here hx rfl (hb hby d7_9) rfl (flt hc1).2.2.1 ?_
        show Steps p.tables e below (s₁.setTop (mkF m 12 #[.val (.int p1), .val (.int p2), .val (.int p3), .val (.int p4), .val (.int p5), .val (.int p6)] [])) _
        refine XS.iloadN X0.here hx rfl (hb hby d7_12) rfl ?_
        show Steps p.tables e below (s₁.setTop (mkF m 13 #[.val (.int p1), .val (.int p2), .val (.int p3), .val (.int p4), .val (.int p5), .val (.int p6)] [(.int p2)])) _
        refine XS.iload X0.here hx rfl (hb hby d7_13) rfl ?_
        exact k_)
      by_cases hc2 : p6 < p2
      · skip
        have pre106 : ∀ t_, Steps p.tables e below (s₁.setTop (mkF m 29 #[.val (.int p1), .val (.int p2), .val (.int p3), .val (.int p4), .val (.int p5), .val (.int p6)] [(.int (0 : Int32))])) t_ → Steps p.tables e below (s₁.setTop (entryFrame m #[(.int p1), (.int p2), (.int p3), (.int p4), (.int p5), (.int p6)] 6)) t_ := fun t_ k_ => pre105 _ (by
          show Steps p.tables e below (s₁.setTop (mkF m 15 #[.val (.int p1), .val (.int p2), .val (.int p3), .val (.int p4), .val (.int p5), .val (.int p6)] [(.int p6), (.int p2)])) _
          refine XS.icmpYes X0.here hx rfl (pc0 := 15) (pc' := 28) rfl (hb hby d7_15) rfl (tlt hc2).2.2.1 (by decide) (by decide) ?_
          show Steps p.tables e below (s₁.setTop (mkF m 28 #[.val (.int p1), .val (.int p2), .val (.int p3), .val (.int p4), .val (.int p5), .val (.int p6)] [])) _
          refine XS.iconst X0.here hx rfl (hb hby d7_28) ?_
          exact k_)
        obtain ⟨fs, hr, hrun, hended, hW, hsame⟩ := X0.leave (v := some (.int (0 : Int32))) (fun h => by rw [Bd.returns] at h; cases h)
        refine ⟨_, _, pre106 _ ?_, hrun, hended, _, _, rfl, ?_, ⟨_, rfl⟩, hW, hsame.mono (by decide) (by decide)⟩
        · show Steps p.tables e below (s₁.setTop (mkF m 29 #[.val (.int p1), .val (.int p2), .val (.int p3), .val (.int p4), .val (.int p5), .val (.int p6)] [(.int (0 : Int32))])) _
          exact retN X0 hx (t := .boolean) Bd.returns (by simp) (hb hby d7_29) hr
        · show QrmIn Z p1 p2 p3 p4 p5 p6 h0 n0 _ s₁.heap _
          rw [e0]
          exact ⟨by rw [own_in, if_neg hc0, if_neg hc1, if_pos hc2], N0, rfl⟩
      · skip
        have pre107 : ∀ t_, Steps p.tables e below (s₁.setTop (mkF m 21 #[.val (.int p1), .val (.int p2), .val (.int p3), .val (.int p4), .val (.int p5), .val (.int p6)] [(.int p4), (.int p6)])) t_ → Steps p.tables e below (s₁.setTop (entryFrame m #[(.int p1), (.int p2), (.int p3), (.int p4), (.int p5), (.int p6)] 6)) t_ := fun t_ k_ => pre105 _ (by
          show Steps p.tables e below (s₁.setTop (mkF m 15 #[.val (.int p1), .val (.int p2), .val (.int p3), .val (.int p4), .val (.int p5), .val (.int p6)] [(.int p6), (.int p2)])) _
          refine XS.icmpNo X0.here hx rfl (hb hby d7_15) rfl (flt hc2).2.2.1 ?_
          show Steps p.tables e below (s₁.setTop (mkF m 18 #[.val (.int p1), .val (.int p2), .val (.int p3), .val (.int p4), .val (.int p5), .val (.int p6)] [])) _
          refine XS.iload X0.here hx rfl (hb hby d7_18) rfl ?_
          show Steps p.tables e below (s₁.setTop (mkF m 20 #[.val (.int p1), .val (.int p2), .val (.int p3), .val (.int p4), .val (.int p5), .val (.int p6)] [(.int p6)])) _
          refine XS.iloadN X0.here hx rfl (hb hby d7_20) rfl ?_
          exact k_)
        by_cases hc3 : p4 < p6
        · skip
          have pre108 : ∀ t_, Steps p.tables e below (s₁.setTop (mkF m 29 #[.val (.int p1), .val (.int p2), .val (.int p3), .val (.int p4), .val (.int p5), .val (.int p6)] [(.int (0 : Int32))])) t_ → Steps p.tables e below (s₁.setTop (entryFrame m #[(.int p1), (.int p2), (.int p3), (.int p4), (.int p5), (.int p6)] 6)) t_ := fun t_ k_ => pre107 _ (by
            show Steps p.tables e below (s₁.setTop (mkF m 21 #[.val (.int p1), .val (.int p2), .val (.int p3), .val (.int p4), .val (.int p5), .val (.int p6)] [(.int p4), (.int p6)])) _
            refine XS.icmpYes X0.here hx rfl (pc0 := 21) (pc' := 28) rfl (hb hby d7_21) rfl (tlt hc3).2.2.1 (by decide) (by decide) ?_
            show Steps p.tables e below (s₁.setTop (mkF m 28 #[.val (.int p1), .val (.int p2), .val (.int p3), .val (.int p4), .val (.int p5), .val (.int p6)] [])) _
            refine XS.iconst X0.here hx rfl (hb hby d7_28) ?_
            exact k_)
          obtain ⟨fs, hr, hrun, hended, hW, hsame⟩ := X0.leave (v := some (.int (0 : Int32))) (fun h => by rw [Bd.returns] at h; cases h)
          refine ⟨_, _, pre108 _ ?_, hrun, hended, _, _, rfl, ?_, ⟨_, rfl⟩, hW, hsame.mono (by decide) (by decide)⟩
          · show Steps p.tables e below (s₁.setTop (mkF m 29 #[.val (.int p1), .val (.int p2), .val (.int p3), .val (.int p4), .val (.int p5), .val (.int p6)] [(.int (0 : Int32))])) _
            exact retN X0 hx (t := .boolean) Bd.returns (by simp) (hb hby d7_29) hr
          · show QrmIn Z p1 p2 p3 p4 p5 p6 h0 n0 _ s₁.heap _
            rw [e0]
            exact ⟨by rw [own_in, if_neg hc0, if_neg hc1, if_neg hc2, if_pos hc3], N0, rfl⟩
        · skip
          have pre109 : ∀ t_, Steps p.tables e below (s₁.setTop (mkF m 29 #[.val (.int p1), .val (.int p2), .val (.int p3), .val (.int p4), .val (.int p5), .val (.int p6)] [(.int (1 : Int32))])) t_ → Steps p.tables e below (s₁.setTop (entryFrame m #[(.int p1), (.int p2), (.int p3), (.int p4), (.int p5), (.int p6)] 6)) t_ := fun t_ k_ => pre107 _ (by
            show Steps p.tables e below (s₁.setTop (mkF m 21 #[.val (.int p1), .val (.int p2), .val (.int p3), .val (.int p4), .val (.int p5), .val (.int p6)] [(.int p4), (.int p6)])) _
            refine XS.icmpNo X0.here hx rfl (hb hby d7_21) rfl (flt hc3).2.2.1 ?_
            show Steps p.tables e below (s₁.setTop (mkF m 24 #[.val (.int p1), .val (.int p2), .val (.int p3), .val (.int p4), .val (.int p5), .val (.int p6)] [])) _
            refine XS.iconst X0.here hx rfl (hb hby d7_24) ?_
            show Steps p.tables e below (s₁.setTop (mkF m 25 #[.val (.int p1), .val (.int p2), .val (.int p3), .val (.int p4), .val (.int p5), .val (.int p6)] [(.int (1 : Int32))])) _
            refine XS.goto X0.here hx rfl (pc0 := 25) (pc' := 29) rfl (hb hby d7_25) (by decide) (by decide) ?_
            exact k_)
          obtain ⟨fs, hr, hrun, hended, hW, hsame⟩ := X0.leave (v := some (.int (1 : Int32))) (fun h => by rw [Bd.returns] at h; cases h)
          refine ⟨_, _, pre109 _ ?_, hrun, hended, _, _, rfl, ?_, ⟨_, rfl⟩, hW, hsame.mono (by decide) (by decide)⟩
          · show Steps p.tables e below (s₁.setTop (mkF m 29 #[.val (.int p1), .val (.int p2), .val (.int p3), .val (.int p4), .val (.int p5), .val (.int p6)] [(.int (1 : Int32))])) _
            exact retN X0 hx (t := .boolean) Bd.returns (by simp) (hb hby d7_29) hr
          · show QrmIn Z p1 p2 p3 p4 p5 p6 h0 n0 _ s₁.heap _
            rw [e0]
            exact ⟨by rw [own_in, if_neg hc0, if_neg hc1, if_neg hc2, if_neg hc3], N0, rfl⟩
theorem d6_0 : decode prog_34_method_4_code 0 = .ok (.aload_n 1, 1) := by decide +kernel
theorem d6_1 : decode prog_34_method_4_code 1 = .ok (.getfield 7, 3) := by decide +kernel
theorem d6_4 : decode prog_34_method_4_code 4 = .ok (.aload_n 0, 1) := by decide +kernel
theorem d6_5 : decode prog_34_method_4_code 5 = .ok (.getfield 7, 3) := by decide +kernel
theorem d6_8 : decode prog_34_method_4_code 8 = .ok (.dcmp .l, 1) := by decide +kernel
theorem d6_9 : decode prog_34_method_4_code 9 = .ok (.ifCond .lt 43, 3) := by decide +kernel
theorem d6_12 : decode prog_34_method_4_code 12 = .ok (.aload_n 1, 1) := by decide +kernel
theorem d6_13 : decode prog_34_method_4_code 13 = .ok (.getfield 16, 3) := by decide +kernel
theorem d6_16 : decode prog_34_method_4_code 16 = .ok (.aload_n 0, 1) := by decide +kernel
theorem d6_17 : decode prog_34_method_4_code 17 = .ok (.getfield 16, 3) := by decide +kernel
theorem d6_20 : decode prog_34_method_4_code 20 = .ok (.dcmp .g, 1) := by decide +kernel
theorem d6_21 : decode prog_34_method_4_code 21 = .ok (.ifCond .gt 31, 3) := by decide +kernel
theorem d6_24 : decode prog_34_method_4_code 24 = .ok (.aload_n 1, 1) := by decide +kernel
theorem d6_25 : decode prog_34_method_4_code 25 = .ok (.getfield 13, 3) := by decide +kernel
theorem d6_28 : decode prog_34_method_4_code 28 = .ok (.aload_n 0, 1) := by decide +kernel
theorem d6_29 : decode prog_34_method_4_code 29 = .ok (.getfield 13, 3) := by decide +kernel
theorem d6_32 : decode prog_34_method_4_code 32 = .ok (.dcmp .l, 1) := by decide +kernel
theorem d6_33 : decode prog_34_method_4_code 33 = .ok (.ifCond .lt 19, 3) := by decide +kernel
theorem d6_36 : decode prog_34_method_4_code 36 = .ok (.aload_n 1, 1) := by decide +kernel
theorem d6_37 : decode prog_34_method_4_code 37 = .ok (.getfield 19, 3) := by decide +kernel
theorem d6_40 : decode prog_34_method_4_code 40 = .ok (.aload_n 0, 1) := by decide +kernel
theorem d6_41 : decode prog_34_method_4_code 41 = .ok (.getfield 19, 3) := by decide +kernel
theorem d6_44 : decode prog_34_method_4_code 44 = .ok (.dcmp .g, 1) := by decide +kernel
theorem d6_45 : decode prog_34_method_4_code 45 = .ok (.ifCond .gt 7, 3) := by decide +kernel
theorem d6_48 : decode prog_34_method_4_code 48 = .ok (.iconst 1, 1) := by decide +kernel
theorem d6_49 : decode prog_34_method_4_code 49 = .ok (.goto 4, 3) := by decide +kernel
theorem d6_52 : decode prog_34_method_4_code 52 = .ok (.iconst 0, 1) := by decide +kernel
theorem d6_53 : decode prog_34_method_4_code 53 = .ok (.ireturn, 1) := by decide +kernel
theorem ef_rmK (m : MethodId) (x0 : Addr) (x1 : Addr) : entryFrame m #[(.ref x0), (.ref x1)] 2 = mkF m 0 #[.val (.ref x0), .val (.ref x1)] [] := by first | (simp [entryFrame, mkF, argsToLocals, Value.category]; done) | rfl
def QrmK (Z : State) (a1 : Addr) (a2 : Addr) (u1 : Int32) (u2 : Int32) (u3 : Int32) (u4 : Int32) (w1 : Int32) (w2 : Int32) (w3 : Int32) (w4 : Int32) (h0 : Heap) (n0 : Nat) (v : Option Value) (h : Heap) (L : List Loc) : Prop := v = some (.int (own_cont u1 u2 u3 u4 w1 w2 w3 w4)) ∧ Fr n0 L ∧ h = h0
set_option maxRecDepth 65536 in
set_option maxHeartbeats 40000000 in
theorem rmK (l : Launch) (Z : State) (a0 : Array Value) (hw : ∀ d ∈ tables_1, d.before a0 Z = true) (ws : List Jvm.Cond) (a1 : Addr) (a2 : Addr) (u1 : Int32) (u2 : Int32) (u3 : Int32) (u4 : Int32) (w1 : Int32) (w2 : Int32) (w3 : Int32) (w4 : Int32) (h0 : Heap) (n0 : Nat) (Z0 : n0 ≤ h0.size) (F0 : Fld Z h0 a1 "com/example/wakeline/wakeline/model/Box" "xmin" "D" (.double (FP.i2d u1))) (F1 : Fld Z h0 a1 "com/example/wakeline/wakeline/model/Box" "ymin" "D" (.double (FP.i2d u2))) (F2 : Fld Z h0 a1 "com/example/wakeline/wakeline/model/Box" "xmax" "D" (.double (FP.i2d u3))) (F3 : Fld Z h0 a1 "com/example/wakeline/wakeline/model/Box" "ymax" "D" (.double (FP.i2d u4))) (G0 : Fld Z h0 a2 "com/example/wakeline/wakeline/model/Box" "xmin" "D" (.double (FP.i2d w1))) (G1 : Fld Z h0 a2 "com/example/wakeline/wakeline/model/Box" "ymin" "D" (.double (FP.i2d w2))) (G2 : Fld Z h0 a2 "com/example/wakeline/wakeline/model/Box" "xmax" "D" (.double (FP.i2d w3))) (G3 : Fld Z h0 a2 "com/example/wakeline/wakeline/model/Box" "ymax" "D" (.double (FP.i2d w4))) :
    MetFree l (⟨"com/example/wakeline/wakeline/model/Box", "contains", "(Lcom/example/wakeline/wakeline/model/Box;)Z"⟩ : MethodName) (head1 (Jvm.Cond.code (⟨"com/example/wakeline/wakeline/model/Box", "contains", "(Lcom/example/wakeline/wakeline/model/Box;)Z"⟩ : MethodName) prog_34_method_4_code 2 (some .boolean) :: ws) ({ frames := 0, cells := 0, slots := 0, locals := 0 } : Room)) (fun a U => a = #[(.ref a1), (.ref a2)] ∧ Z.Warmed39 U.vm ∧ U.heap = h0) (fun _ _ _ _ _ => True) (fun _ U o U' => ∃ v L, o = .returned v ∧ QrmK Z a1 a2 u1 u2 u3 u4 w1 w2 w3 w4 h0 n0 v U'.heap L ∧ FrameEnd U o U' L ({ frames := 0, cells := 0, slots := 0, locals := 0 } : Room).cells ({ frames := 0, cells := 0, slots := 0, locals := 0 } : Room).slots) := by
  refine MetFree.of_bodySF (plainFor_of_name pn_1) hisR ?_
  intro p e s m args below meth c s₁ Bd hml0 hP hK
  obtain ⟨rfl, hZ, hh⟩ := hP
  have hx := Bd.exec
  have hby := Bd.bytes
  have hml : c.maxLocals = 2 := hml0
  have hown : s.vm.findClass "com/example/wakeline/wakeline/model/Box" = some m.cls := findClass_of_methodNamed Bd.named
  have hnm := (name_of_methodNamed Bd.named Bd.method).1
  have X0 : Stand p l e ({ frames := 0, cells := 0, slots := 0, locals := 0 } : Room) s m #[(.ref a1), (.ref a2)] below meth c s₁ [] 0 0 := Stand.of_body Bd
  have e0 : s₁.heap = h0 := by rw [← hh, Bd.state]; rfl
  have N0 := Fr.nil n0
  have pre0 : ∀ t_, Steps p.tables e below (s₁.setTop (mkF m 0 #[.val (.ref a1), .val (.ref a2)] [])) t_ → Steps p.tables e below (s₁.setTop (entryFrame m #[(.ref a1), (.ref a2)] 2)) t_ := fun t_ k_ => castTop (ef_rmK m a1 a2) k_
  obtain ⟨T101, X101, e101, st101⟩ := getF X0 hx hZ hown (host := "") (Or.inl (hw _ (List.mem_of_getElem? (i := 21) rfl))) Via.refl e0 G0 (g := (mkF m 1 #[.val (.ref a1), .val (.ref a2)] [(.ref a2)])) rfl rfl (hb hby d6_1)
  obtain ⟨T102, X102, e102, st102⟩ := getF X101 hx hZ hown (host := "") (Or.inl (hw _ (List.mem_of_getElem? (i := 21) rfl))) Via.refl e101 F0 (g := (mkF m 5 #[.val (.ref a1), .val (.ref a2)] [(.ref a1), (.double (FP.i2d w1))])) rfl rfl (hb hby d6_5)
  have pre103 : ∀ t_, Steps p.tables e below (T102.setTop (mkF m 9 #[.val (.ref a1), .val (.ref a2)] [(.int (lcmpW w1.toInt64 u1.toInt64))])) t_ → Steps p.tables e below (s₁.setTop (entryFrame m #[(.ref a1), (.ref a2)] 2)) t_ := fun t_ k_ => pre0 _ (by
    show Steps p.tables e below (s₁.setTop (mkF m 0 #[.val (.ref a1), .val (.ref a2)] [])) _
    refine XS.aloadN X0.here hx rfl (hb hby d6_0) rfl rfl ?_
    show Steps p.tables e below (s₁.setTop (mkF m 1 #[.val (.ref a1), .val (.ref a2)] [(.ref a2)])) _
    refine st101 _ ?_
    show Steps p.tables e below (T101.setTop (mkF m 4 #[.val (.ref a1), .val (.ref a2)] [(.double (FP.i2d w1))])) _
    refine XS.aloadN X101.here hx rfl (hb hby d6_4) rfl rfl ?_
    show Steps p.tables e below (T101.setTop (mkF m 5 #[.val (.ref a1), .val (.ref a2)] [(.ref a1), (.double (FP.i2d w1))])) _
    refine st102 _ ?_
    show Steps p.tables e below (T102.setTop (mkF m 8 #[.val (.ref a1), .val (.ref a2)] [(.double (FP.i2d u1)), (.double (FP.i2d w1))])) _
    refine XS.dcmpS X102.here hx rfl (hb hby d6_8) rfl (own_dcmp _ _ _) ?_
    exact k_)
  by_cases hc0 : w1.toInt64 < u1.toInt64
  · skip
    have pre104 : ∀ t_, Steps p.tables e below (T102.setTop (mkF m 53 #[.val (.ref a1), .val (.ref a2)] [(.int (0 : Int32))])) t_ → Steps p.tables e below (s₁.setTop (entryFrame m #[(.ref a1), (.ref a2)] 2)) t_ := fun t_ k_ => pre103 _ (by
      show Steps p.tables e below (T102.setTop (mkF m 9 #[.val (.ref a1), .val (.ref a2)] [(.int (lcmpW w1.toInt64 u1.toInt64))])) _
      refine XS.ifYes X102.here hx rfl (pc0 := 9) (pc' := 52) rfl (hb hby d6_9) rfl ((if0 _ _).trans (tlt ((lw_lt _ _).mpr hc0)).1) (by decide) (by decide) ?_
      show Steps p.tables e below (T102.setTop (mkF m 52 #[.val (.ref a1), .val (.ref a2)] [])) _
      refine XS.iconst X102.here hx rfl (hb hby d6_52) ?_
      exact k_)
    obtain ⟨fs, hr, hrun, hended, hW, hsame⟩ := X102.leave (v := some (.int (0 : Int32))) (fun h => by rw [Bd.returns] at h; cases h)
    refine ⟨_, _, pre104 _ ?_, hrun, hended, _, _, rfl, ?_, ⟨_, rfl⟩, hW, hsame.mono (by decide) (by decide)⟩
    · show Steps p.tables e below (T102.setTop (mkF m 53 #[.val (.ref a1), .val (.ref a2)] [(.int (0 : Int32))])) _
      exact retN X102 hx (t := .boolean) Bd.returns (by simp) (hb hby d6_53) hr
    · show QrmK Z a1 a2 u1 u2 u3 u4 w1 w2 w3 w4 h0 n0 _ T102.heap _
      rw [e102]
      exact ⟨by rw [own_cont, if_pos hc0], N0, rfl⟩
  · skip
    obtain ⟨T105, X105, e105, st105⟩ := getF X102 hx hZ hown (host := "") (Or.inl (hw _ (List.mem_of_getElem? (i := 25) rfl))) Via.refl e102 G2 (g := (mkF m 13 #[.val (.ref a1), .val (.ref a2)] [(.ref a2)])) rfl rfl (hb hby d6_13)
    obtain ⟨T106, X106, e106, st106⟩ := getF X105 hx hZ hown (host := "") (Or.inl (hw _ (List.mem_of_getElem? (i := 25) rfl))) Via.refl e105 F2 (g := (mkF m 17 #[.val (.ref a1), .val (.ref a2)] [(.ref a1), (.double (FP.i2d w3))])) rfl rfl (hb hby d6_17)
    have pre107 : ∀ t_, Steps p.tables e below (T106.setTop (mkF m 21 #[.val (.ref a1), .val (.ref a2)] [(.int (lcmpW w3.toInt64 u3.toInt64))])) t_ → Steps p.tables e below (s₁.setTop (entryFrame m #[(.ref a1), (.ref a2)] 2)) t_ := fun t_ k_ => pre103 _ (by
      show Steps p.tables e below (T102.setTop (mkF m 9 #[.val (.ref a1), .val (.ref a2)] [(.int (lcmpW w1.toInt64 u1.toInt64))])) _
      refine XS.ifNo X102.here hx rfl (hb hby d6_9) rfl ((if0 _ _).trans (flt (mt (lw_lt _ _).mp hc0)).1) ?_
      show Steps p.tables e below (T102.setTop (mkF m 12 #[.val (.ref a1), .val (.ref a2)] [])) _
      refine XS.aloadN X102.here hx rfl (hb hby d6_12) rfl rfl ?_
      show Steps p.tables e below (T102.setTop (mkF m 13 #[.val (.ref a1), .val (.ref a2)] [(.ref a2)])) _
      refine st105 _ ?_
      show Steps p.tables e below (T105.setTop (mkF m 16 #[.val (.ref a1), .val (.ref a2)] [(.double (FP.i2d w3))])) _
      refine XS.aloadN X105.here hx rfl (hb hby d6_16) rfl rfl ?_
      show Steps p.tables e below (T105.setTop (mkF m 17 #[.val (.ref a1), .val (.ref a2)] [(.ref a1), (.double (FP.i2d w3))])) _
      refine st106 _ ?_
      show Steps p.tables e below (T106.setTop (mkF m 20 #[.val (.ref a1), .val (.ref a2)] [(.double (FP.i2d u3)), (.double (FP.i2d w3))])) _
      refine XS.dcmpS X106.here hx rfl (hb hby d6_20) rfl (own_dcmp _ _ _) ?_
      exact k_)
    by_cases hc1 : u3.toInt64 < w3.toInt64
    · skip
      have pre108 : ∀ t_, Steps p.tables e below (T106.setTop (mkF m 53 #[.val (.ref a1), .val (.ref a2)] [(.int (0 : Int32))])) t_ → Steps p.tables e below (s₁.setTop (entryFrame m #[(.ref a1), (.ref a2)] 2)) t_ := fun t_ k_ => pre107 _ (by
        show Steps p.tables e below (T106.setTop (mkF m 21 #[.val (.ref a1), .val (.ref a2)] [(.int (lcmpW w3.toInt64 u3.toInt64))])) _
        refine XS.ifYes X106.here hx rfl (pc0 := 21) (pc' := 52) rfl (hb hby d6_21) rfl ((if0 _ _).trans (tlt ((lw_gt _ _).mpr hc1)).2.2.1) (by decide) (by decide) ?_
        show Steps p.tables e below (T106.setTop (mkF m 52 #[.val (.ref a1), .val (.ref a2)] [])) _
        refine XS.iconst X106.here hx rfl (hb hby d6_52) ?_
        exact k_)
      obtain ⟨fs, hr, hrun, hended, hW, hsame⟩ := X106.leave (v := some (.int (0 : Int32))) (fun h => by rw [Bd.returns] at h; cases h)
      refine ⟨_, _, pre108 _ ?_, hrun, hended, _, _, rfl, ?_, ⟨_, rfl⟩, hW, hsame.mono (by decide) (by decide)⟩
      · show Steps p.tables e below (T106.setTop (mkF m 53 #[.val (.ref a1), .val (.ref a2)] [(.int (0 : Int32))])) _
        exact retN X106 hx (t := .boolean) Bd.returns (by simp) (hb hby d6_53) hr
      · show QrmK Z a1 a2 u1 u2 u3 u4 w1 w2 w3 w4 h0 n0 _ T106.heap _
        rw [e106]
        exact ⟨by rw [own_cont, if_neg hc0, if_pos hc1], N0, rfl⟩
    · skip
      obtain ⟨T109, X109, e109, st109⟩ := getF X106 hx hZ hown (host := "") (Or.inl (hw _ (List.mem_of_getElem? (i := 23) rfl))) Via.refl e106 G1 (g := (mkF m 25 #[.val (.ref a1), .val (.ref a2)] [(.ref a2)])) rfl rfl (hb hby d6_25)
      obtain ⟨T110, X110, e110, st110⟩ := getF X109 hx hZ hown (host := "") (Or.inl (hw _ (List.mem_of_getElem? (i := 23) rfl))) Via.refl e109 F1 (g := (mkF m 29 #[.val (.ref a1), .val (.ref a2)] [(.ref a1), (.double (FP.i2d w2))])) rfl rfl (hb hby d6_29)
      have pre111 : ∀ t_, Steps p.tables e below (T110.setTop (mkF m 33 #[.val (.ref a1), .val (.ref a2)] [(.int (lcmpW w2.toInt64 u2.toInt64))])) t_ → Steps p.tables e below (s₁.setTop (entryFrame m #[(.ref a1), (.ref a2)] 2)) t_ := fun t_ k_ => pre107 _ (by
        show Steps p.tables e below (T106.setTop (mkF m 21 #[.val (.ref a1), .val (.ref a2)] [(.int (lcmpW w3.toInt64 u3.toInt64))])) _
        refine XS.ifNo X106.here hx rfl (hb hby d6_21) rfl ((if0 _ _).trans (flt (mt (lw_gt _ _).mp hc1)).2.2.1) ?_
        show Steps p.tables e below (T106.setTop (mkF m 24 #[.val (.ref a1), .val (.ref a2)] [])) _
        refine XS.aloadN X106.here hx rfl (hb hby d6_24) rfl rfl ?_
        show Steps p.tables e below (T106.setTop (mkF m 25 #[.val (.ref a1), .val (.ref a2)] [(.ref a2)])) _
        refine st109 _ ?_
        show Steps p.tables e below (T109.setTop (mkF m 28 #[.val (.ref a1), .val (.ref a2)] [(.double (FP.i2d w2))])) _
        refine XS.aloadN X109.here hx rfl (hb hby d6_28) rfl rfl ?_
        show Steps p.tables e below (T109.setTop (mkF m 29 #[.val (.ref a1), .val (.ref a2)] [(.ref a1), (.double (FP.i2d w2))])) _
        refine st110 _ ?_
        show Steps p.tables e below (T110.setTop (mkF m 32 #[.val (.ref a1), .val (.ref a2)] [(.double (FP.i2d u2)), (.double (FP.i2d w2))])) _
        refine XS.dcmpS X110.here hx rfl (hb hby d6_32) rfl (own_dcmp _ _ _) ?_
        exact k_)
      by_cases hc2 : w2.toInt64 < u2.toInt64
      · skip
        have pre112 : ∀ t_, Steps p.tables e below (T110.setTop (mkF m 53 #[.val (.ref a1), .val (.ref a2)] [(.int (0 : Int32))])) t_ → Steps p.tables e below (s₁.setTop (entryFrame m #[(.ref a1), (.ref a2)] 2)) t_ := fun t_ k_ => pre111 _ (by
          show Steps p.tables e below (T110.setTop (mkF m 33 #[.val (.ref a1), .val (.ref a2)] [(.int (lcmpW w2.toInt64 u2.toInt64))])) _
          refine XS.ifYes X110.here hx rfl (pc0 := 33) (pc' := 52) rfl (hb hby d6_33) rfl ((if0 _ _).trans (tlt ((lw_lt _ _).mpr hc2)).1) (by decide) (by decide) ?_
          show Steps p.tables e below (T110.setTop (mkF m 52 #[.val (.ref a1), .val (.ref a2)] [])) _
          refine XS.iconst X110.here hx rfl (hb hby d6_52) ?_
          exact k_)
        obtain ⟨fs, hr, hrun, hended, hW, hsame⟩ := X110.leave (v := some (.int (0 : Int32))) (fun h => by rw [Bd.returns] at h; cases h)
        refine ⟨_, _, pre112 _ ?_, hrun, hended, _, _, rfl, ?_, ⟨_, rfl⟩, hW, hsame.mono (by decide) (by decide)⟩
        · show Steps p.tables e below (T110.setTop (mkF m 53 #[.val (.ref a1), .val (.ref a2)] [(.int (0 : Int32))])) _
          exact retN X110 hx (t := .boolean) Bd.returns (by simp) (hb hby d6_53) hr
        · show QrmK Z a1 a2 u1 u2 u3 u4 w1 w2 w3 w4 h0 n0 _ T110.heap _
          rw [e110]
          exact ⟨by rw [own_cont, if_neg hc0, if_neg hc1, if_pos hc2], N0, rfl⟩
      · skip
        obtain ⟨T113, X113, e113, st113⟩ := getF X110 hx hZ hown (host := "") (Or.inl (hw _ (List.mem_of_getElem? (i := 27) rfl))) Via.refl e110 G3 (g := (mkF m 37 #[.val (.ref a1), .val (.ref a2)] [(.ref a2)])) rfl rfl (hb hby d6_37)
        obtain ⟨T114, X114, e114, st114⟩ := getF X113 hx hZ hown (host := "") (Or.inl (hw _ (List.mem_of_getElem? (i := 27) rfl))) Via.refl e113 F3 (g := (mkF m 41 #[.val (.ref a1), .val (.ref a2)] [(.ref a1), (.double (FP.i2d w4))])) rfl rfl (hb hby d6_41)
        have pre115 : ∀ t_, Steps p.tables e below (T114.setTop (mkF m 45 #[.val (.ref a1), .val (.ref a2)] [(.int (lcmpW w4.toInt64 u4.toInt64))])) t_ → Steps p.tables e below (s₁.setTop (entryFrame m #[(.ref a1), (.ref a2)] 2)) t_ := fun t_ k_ => pre111 _ (by
          show Steps p.tables e below (T110.setTop (mkF m 33 #[.val (.ref a1), .val (.ref a2)] [(.int (lcmpW w2.toInt64 u2.toInt64))])) _
          refine XS.ifNo X110.here hx rfl (hb hby d6_33) rfl ((if0 _ _).trans (flt (mt (lw_lt _ _).mp hc2)).1) ?_
          show Steps p.tables e below (T110.setTop (mkF m 36 #[.val (.ref a1), .val (.ref a2)] [])) _
          refine XS.aloadN X110.here hx rfl (hb hby d6_36) rfl rfl ?_
          show Steps p.tables e below (T110.setTop (mkF m 37 #[.val (.ref a1), .val (.ref a2)] [(.ref a2)])) _
          refine st113 _ ?_
          show Steps p.tables e below (T113.setTop (mkF m 40 #[.val (.ref a1), .val (.ref a2)] [(.double (FP.i2d w4))])) _
          refine XS.aloadN X113.here hx rfl (hb hby d6_40) rfl rfl ?_
          show Steps p.tables e below (T113.setTop (mkF m 41 #[.val (.ref a1), .val (.ref a2)] [(.ref a1), (.double (FP.i2d w4))])) _
          refine st114 _ ?_
          show Steps p.tables e below (T114.setTop (mkF m 44 #[.val (.ref a1), .val (.ref a2)] [(.double (FP.i2d u4)), (.double (FP.i2d w4))])) _
          refine XS.dcmpS X114.here hx rfl (hb hby d6_44) rfl (own_dcmp _ _ _) ?_
          exact k_)
        by_cases hc3 : u4.toInt64 < w4.toInt64
        · skip
          have pre116 : ∀ t_, Steps p.tables e below (T114.setTop (mkF m 53 #[.val (.ref a1), .val (.ref a2)] [(.int (0 : Int32))])) t_ → Steps p.tables e below (s₁.setTop (entryFrame m #[(.ref a1), (.ref a2)] 2)) t_ := fun t_ k_ => pre115 _ (by
            show Steps p.tables e below (T114.setTop (mkF m 45 #[.val (.ref a1), .val (.ref a2)] [(.int (lcmpW w4.toInt64 u4.toInt64))])) _
            refine XS.ifYes X114.here hx rfl (pc0 := 45) (pc' := 52) rfl (hb hby d6_45) rfl ((if0 _ _).trans (tlt ((lw_gt _ _).mpr hc3)).2.2.1) (by decide) (by decide) ?_
            show Steps p.tables e below (T114.setTop (mkF m 52 #[.val (.ref a1), .val (.ref a2)] [])) _
            refine XS.iconst X114.here hx rfl (hb hby d6_52) ?_
            exact k_)
          obtain ⟨fs, hr, hrun, hended, hW, hsame⟩ := X114.leave (v := some (.int (0 : Int32))) (fun h => by rw [Bd.returns] at h; cases h)
          refine ⟨_, _, pre116 _ ?_, hrun, hended, _, _, rfl, ?_, ⟨_, rfl⟩, hW, hsame.mono (by decide) (by decide)⟩
          · show Steps p.tables e below (T114.setTop (mkF m 53 #[.val (.ref a1), .val (.ref a2)] [(.int (0 : Int32))])) _
            exact retN X114 hx (t := .boolean) Bd.returns (by simp) (hb hby d6_53) hr
          · show QrmK Z a1 a2 u1 u2 u3 u4 w1 w2 w3 w4 h0 n0 _ T114.heap _
            rw [e114]
            exact ⟨by rw [own_cont, if_neg hc0, if_neg hc1, if_neg hc2, if_pos hc3], N0, rfl⟩
        · skip
          have pre117 : ∀ t_, Steps p.tables e below (T114.setTop (mkF m 53 #[.val (.ref a1), .val (.ref a2)] [(.int (1 : Int32))])) t_ → Steps p.tables e below (s₁.setTop (entryFrame m #[(.ref a1), (.ref a2)] 2)) t_ := fun t_ k_ => pre115 _ (by
            show Steps p.tables e below (T114.setTop (mkF m 45 #[.val (.ref a1), .val (.ref a2)] [(.int (lcmpW w4.toInt64 u4.toInt64))])) _
            refine XS.ifNo X114.here hx rfl (hb hby d6_45) rfl ((if0 _ _).trans (flt (mt (lw_gt _ _).mp hc3)).2.2.1) ?_
            show Steps p.tables e below (T114.setTop (mkF m 48 #[.val (.ref a1), .val (.ref a2)] [])) _
            refine XS.iconst X114.here hx rfl (hb hby d6_48) ?_
            show Steps p.tables e below (T114.setTop (mkF m 49 #[.val (.ref a1), .val (.ref a2)] [(.int (1 : Int32))])) _
            refine XS.goto X114.here hx rfl (pc0 := 49) (pc' := 53) rfl (hb hby d6_49) (by decide) (by decide) ?_
            exact k_)
          obtain ⟨fs, hr, hrun, hended, hW, hsame⟩ := X114.leave (v := some (.int (1 : Int32))) (fun h => by rw [Bd.returns] at h; cases h)
          refine ⟨_, _, pre117 _ ?_, hrun, hended, _, _, rfl, ?_, ⟨_, rfl⟩, hW, hsame.mono (by decide) (by decide)⟩
          · show Steps p.tables e below (T114.setTop (mkF m 53 #[.val (.ref a1), .val (.ref a2)] [(.int (1 : Int32))])) _
            exact retN X114 hx (t := .boolean) Bd.returns (by simp) (hb hby d6_53) hr
          · show QrmK Z a1 a2 u1 u2 u3 u4 w1 w2 w3 w4 h0 n0 _ T114.heap _
            rw [e114]
            exact ⟨by rw [own_cont, if_neg hc0, if_neg hc1, if_neg hc2, if_neg hc3], N0, rfl⟩
theorem ef_rmKE (m : MethodId) (x0 : Addr) (x1 : Addr) : entryFrame m #[(.ref x0), (.ref x1)] 2 = mkF m 0 #[.val (.ref x0), .val (.ref x1)] [] := by first | (simp [entryFrame, mkF, argsToLocals, Value.category]; done) | rfl
def QrmKE (Z : State) (a1 : Addr) (a2 : Addr) (u1 : Int32) (u2 : Int32) (u3 : Int32) (u4 : Int32) (h0 : Heap) (n0 : Nat) (v : Option Value) (h : Heap) (L : List Loc) : Prop := v = some (.int 1) ∧ Fr n0 L ∧ h = h0
set_option maxRecDepth 65536 in
set_option maxHeartbeats 40000000 in
theorem rmKE (l : Launch) (Z : State) (a0 : Array Value) (hw : ∀ d ∈ tables_1, d.before a0 Z = true) (ws : List Jvm.Cond) (a1 : Addr) (a2 : Addr) (u1 : Int32) (u2 : Int32) (u3 : Int32) (u4 : Int32) (h0 : Heap) (n0 : Nat) (Z0 : n0 ≤ h0.size) (F0 : Fld Z h0 a1 "com/example/wakeline/wakeline/model/Box" "xmin" "D" (.double (FP.i2d u1))) (F1 : Fld Z h0 a1 "com/example/wakeline/wakeline/model/Box" "ymin" "D" (.double (FP.i2d u2))) (F2 : Fld Z h0 a1 "com/example/wakeline/wakeline/model/Box" "xmax" "D" (.double (FP.i2d u3))) (F3 : Fld Z h0 a1 "com/example/wakeline/wakeline/model/Box" "ymax" "D" (.double (FP.i2d u4))) (G0 : Fld Z h0 a2 "com/example/wakeline/wakeline/model/Box" "xmin" "D" (.double 9218868437227405312)) (G1 : Fld Z h0 a2 "com/example/wakeline/wakeline/model/Box" "ymin" "D" (.double 9218868437227405312)) (G2 : Fld Z h0 a2 "com/example/wakeline/wakeline/model/Box" "xmax" "D" (.double 18442240474082181120)) (G3 : Fld Z h0 a2 "com/example/wakeline/wakeline/model/Box" "ymax" "D" (.double 18442240474082181120)) :
    MetFree l (⟨"com/example/wakeline/wakeline/model/Box", "contains", "(Lcom/example/wakeline/wakeline/model/Box;)Z"⟩ : MethodName) (head1 (Jvm.Cond.code (⟨"com/example/wakeline/wakeline/model/Box", "contains", "(Lcom/example/wakeline/wakeline/model/Box;)Z"⟩ : MethodName) prog_34_method_4_code 2 (some .boolean) :: ws) ({ frames := 0, cells := 0, slots := 0, locals := 0 } : Room)) (fun a U => a = #[(.ref a1), (.ref a2)] ∧ Z.Warmed39 U.vm ∧ U.heap = h0) (fun _ _ _ _ _ => True) (fun _ U o U' => ∃ v L, o = .returned v ∧ QrmKE Z a1 a2 u1 u2 u3 u4 h0 n0 v U'.heap L ∧ FrameEnd U o U' L ({ frames := 0, cells := 0, slots := 0, locals := 0 } : Room).cells ({ frames := 0, cells := 0, slots := 0, locals := 0 } : Room).slots) := by
  refine MetFree.of_bodySF (plainFor_of_name pn_1) hisR ?_
  intro p e s m args below meth c s₁ Bd hml0 hP hK
  obtain ⟨rfl, hZ, hh⟩ := hP
  have hx := Bd.exec
  have hby := Bd.bytes
  have hml : c.maxLocals = 2 := hml0
  have hown : s.vm.findClass "com/example/wakeline/wakeline/model/Box" = some m.cls := findClass_of_methodNamed Bd.named
  have hnm := (name_of_methodNamed Bd.named Bd.method).1
  have X0 : Stand p l e ({ frames := 0, cells := 0, slots := 0, locals := 0 } : Room) s m #[(.ref a1), (.ref a2)] below meth c s₁ [] 0 0 := Stand.of_body Bd
  have e0 : s₁.heap = h0 := by rw [← hh, Bd.state]; rfl
  have N0 := Fr.nil n0
  have pre0 : ∀ t_, Steps p.tables e below (s₁.setTop (mkF m 0 #[.val (.ref a1), .val (.ref a2)] [])) t_ → Steps p.tables e below (s₁.setTop (entryFrame m #[(.ref a1), (.ref a2)] 2)) t_ := fun t_ k_ => castTop (ef_rmKE m a1 a2) k_
  obtain ⟨T101, X101, e101, st101⟩ := getF X0 hx hZ hown (host := "") (Or.inl (hw _ (List.mem_of_getElem? (i := 21) rfl))) Via.refl e0 G0 (g := (mkF m 1 #[.val (.ref a1), .val (.ref a2)] [(.ref a2)])) rfl rfl (hb hby d6_1)
  obtain ⟨T102, X102, e102, st102⟩ := getF X101 hx hZ hown (host := "") (Or.inl (hw _ (List.mem_of_getElem? (i := 21) rfl))) Via.refl e101 F0 (g := (mkF m 5 #[.val (.ref a1), .val (.ref a2)] [(.ref a1), (.double 9218868437227405312)])) rfl rfl (hb hby d6_5)
  obtain ⟨T103, X103, e103, st103⟩ := getF X102 hx hZ hown (host := "") (Or.inl (hw _ (List.mem_of_getElem? (i := 25) rfl))) Via.refl e102 G2 (g := (mkF m 13 #[.val (.ref a1), .val (.ref a2)] [(.ref a2)])) rfl rfl (hb hby d6_13)
  obtain ⟨T104, X104, e104, st104⟩ := getF X103 hx hZ hown (host := "") (Or.inl (hw _ (List.mem_of_getElem? (i := 25) rfl))) Via.refl e103 F2 (g := (mkF m 17 #[.val (.ref a1), .val (.ref a2)] [(.ref a1), (.double 18442240474082181120)])) rfl rfl (hb hby d6_17)
  obtain ⟨T105, X105, e105, st105⟩ := getF X104 hx hZ hown (host := "") (Or.inl (hw _ (List.mem_of_getElem? (i := 23) rfl))) Via.refl e104 G1 (g := (mkF m 25 #[.val (.ref a1), .val (.ref a2)] [(.ref a2)])) rfl rfl (hb hby d6_25)
  obtain ⟨T106, X106, e106, st106⟩ := getF X105 hx hZ hown (host := "") (Or.inl (hw _ (List.mem_of_getElem? (i := 23) rfl))) Via.refl e105 F1 (g := (mkF m 29 #[.val (.ref a1), .val (.ref a2)] [(.ref a1), (.double 9218868437227405312)])) rfl rfl (hb hby d6_29)
  obtain ⟨T107, X107, e107, st107⟩ := getF X106 hx hZ hown (host := "") (Or.inl (hw _ (List.mem_of_getElem? (i := 27) rfl))) Via.refl e106 G3 (g := (mkF m 37 #[.val (.ref a1), .val (.ref a2)] [(.ref a2)])) rfl rfl (hb hby d6_37)
  obtain ⟨T108, X108, e108, st108⟩ := getF X107 hx hZ hown (host := "") (Or.inl (hw _ (List.mem_of_getElem? (i := 27) rfl))) Via.refl e107 F3 (g := (mkF m 41 #[.val (.ref a1), .val (.ref a2)] [(.ref a1), (.double 18442240474082181120)])) rfl rfl (hb hby d6_41)
  have pre109 : ∀ t_, Steps p.tables e below (T108.setTop (mkF m 53 #[.val (.ref a1), .val (.ref a2)] [(.int (1 : Int32))])) t_ → Steps p.tables e below (s₁.setTop (entryFrame m #[(.ref a1), (.ref a2)] 2)) t_ := fun t_ k_ => pre0 _ (by
    show Steps p.tables e below (s₁.setTop (mkF m 0 #[.val (.ref a1), .val (.ref a2)] [])) _
    refine XS.aloadN X0.here hx rfl (hb hby d6_0) rfl rfl ?_
    show Steps p.tables e below (s₁.setTop (mkF m 1 #[.val (.ref a1), .val (.ref a2)] [(.ref a2)])) _
    refine st101 _ ?_
    show Steps p.tables e below (T101.setTop (mkF m 4 #[.val (.ref a1), .val (.ref a2)] [(.double 9218868437227405312)])) _
    refine XS.aloadN X101.here hx rfl (hb hby d6_4) rfl rfl ?_
    show Steps p.tables e below (T101.setTop (mkF m 5 #[.val (.ref a1), .val (.ref a2)] [(.ref a1), (.double 9218868437227405312)])) _
    refine st102 _ ?_
    show Steps p.tables e below (T102.setTop (mkF m 8 #[.val (.ref a1), .val (.ref a2)] [(.double (FP.i2d u1)), (.double 9218868437227405312)])) _
    refine XS.dcmpS X102.here hx rfl (hb hby d6_8) rfl (dcmp_pinf' (Jvm.Free.Fl.i2d_fin _) _) ?_
    show Steps p.tables e below (T102.setTop (mkF m 9 #[.val (.ref a1), .val (.ref a2)] [(.int (1 : Int32))])) _
    refine XS.ifNo X102.here hx rfl (hb hby d6_9) rfl ((if0 _ _).trans (flt (by decide)).1) ?_
    show Steps p.tables e below (T102.setTop (mkF m 12 #[.val (.ref a1), .val (.ref a2)] [])) _
    refine XS.aloadN X102.here hx rfl (hb hby d6_12) rfl rfl ?_
    show Steps p.tables e below (T102.setTop (mkF m 13 #[.val (.ref a1), .val (.ref a2)] [(.ref a2)])) _
    refine st103 _ ?_
    show Steps p.tables e below (T103.setTop (mkF m 16 #[.val (.ref a1), .val (.ref a2)] [(.double 18442240474082181120)])) _
    refine XS.aloadN X103.here hx rfl (hb hby d6_16) rfl rfl ?_
    show Steps p.tables e below (T103.setTop (mkF m 17 #[.val (.ref a1), .val (.ref a2)] [(.ref a1), (.double 18442240474082181120)])) _
    refine st104 _ ?_
    show Steps p.tables e below (T104.setTop (mkF m 20 #[.val (.ref a1), .val (.ref a2)] [(.double (FP.i2d u3)), (.double 18442240474082181120)])) _
    refine XS.dcmpS X104.here hx rfl (hb hby d6_20) rfl (dcmp_ninf' (Jvm.Free.Fl.i2d_fin _) _) ?_
    show Steps p.tables e below (T104.setTop (mkF m 21 #[.val (.ref a1), .val (.ref a2)] [(.int (-1 : Int32))])) _
    refine XS.ifNo X104.here hx rfl (hb hby d6_21) rfl ((if0 _ _).trans (flt (by decide)).2.2.1) ?_
    show Steps p.tables e below (T104.setTop (mkF m 24 #[.val (.ref a1), .val (.ref a2)] [])) _
    refine XS.aloadN X104.here hx rfl (hb hby d6_24) rfl rfl ?_
    show Steps p.tables e below (T104.setTop (mkF m 25 #[.val (.ref a1), .val (.ref a2)] [(.ref a2)])) _
    refine st105 _ ?_
    show Steps p.tables e below (T105.setTop (mkF m 28 #[.val (.ref a1), .val (.ref a2)] [(.double 9218868437227405312)])) _
    refine XS.aloadN X105.here hx rfl (hb hby d6_28) rfl rfl ?_
    show Steps p.tables e below (T105.setTop (mkF m 29 #[.val (.ref a1), .val (.ref a2)] [(.ref a1), (.double 9218868437227405312)])) _
    refine st106 _ ?_
    show Steps p.tables e below (T106.setTop (mkF m 32 #[.val (.ref a1), .val (.ref a2)] [(.double (FP.i2d u2)), (.double 9218868437227405312)])) _
    refine XS.dcmpS X106.here hx rfl (hb hby d6_32) rfl (dcmp_pinf' (Jvm.Free.Fl.i2d_fin _) _) ?_
    show Steps p.tables e below (T106.setTop (mkF m 33 #[.val (.ref a1), .val (.ref a2)] [(.int (1 : Int32))])) _
    refine XS.ifNo X106.here hx rfl (hb hby d6_33) rfl ((if0 _ _).trans (flt (by decide)).1) ?_
    show Steps p.tables e below (T106.setTop (mkF m 36 #[.val (.ref a1), .val (.ref a2)] [])) _
    refine XS.aloadN X106.here hx rfl (hb hby d6_36) rfl rfl ?_
    show Steps p.tables e below (T106.setTop (mkF m 37 #[.val (.ref a1), .val (.ref a2)] [(.ref a2)])) _
    refine st107 _ ?_
    show Steps p.tables e below (T107.setTop (mkF m 40 #[.val (.ref a1), .val (.ref a2)] [(.double 18442240474082181120)])) _
    refine XS.aloadN X107.here hx rfl (hb hby d6_40) rfl rfl ?_
    show Steps p.tables e below (T107.setTop (mkF m 41 #[.val (.ref a1), .val (.ref a2)] [(.ref a1), (.double 18442240474082181120)])) _
    refine st108 _ ?_
    show Steps p.tables e below (T108.setTop (mkF m 44 #[.val (.ref a1), .val (.ref a2)] [(.double (FP.i2d u4)), (.double 18442240474082181120)])) _
    refine XS.dcmpS X108.here hx rfl (hb hby d6_44) rfl (dcmp_ninf' (Jvm.Free.Fl.i2d_fin _) _) ?_
    show Steps p.tables e below (T108.setTop (mkF m 45 #[.val (.ref a1), .val (.ref a2)] [(.int (-1 : Int32))])) _
    refine XS.ifNo X108.here hx rfl (hb hby d6_45) rfl ((if0 _ _).trans (flt (by decide)).2.2.1) ?_
    show Steps p.tables e below (T108.setTop (mkF m 48 #[.val (.ref a1), .val (.ref a2)] [])) _
    refine XS.iconst X108.here hx rfl (hb hby d6_48) ?_
    show Steps p.tables e below (T108.setTop (mkF m 49 #[.val (.ref a1), .val (.ref a2)] [(.int (1 : Int32))])) _
    refine XS.goto X108.here hx rfl (pc0 := 49) (pc' := 53) rfl (hb hby d6_49) (by decide) (by decide) ?_
    exact k_)
  obtain ⟨fs, hr, hrun, hended, hW, hsame⟩ := X108.leave (v := some (.int (1 : Int32))) (fun h => by rw [Bd.returns] at h; cases h)
  refine ⟨_, _, pre109 _ ?_, hrun, hended, _, _, rfl, ?_, ⟨_, rfl⟩, hW, hsame.mono (by decide) (by decide)⟩
  · show Steps p.tables e below (T108.setTop (mkF m 53 #[.val (.ref a1), .val (.ref a2)] [(.int (1 : Int32))])) _
    exact retN X108 hx (t := .boolean) Bd.returns (by simp) (hb hby d6_53) hr
  · show QrmKE Z a1 a2 u1 u2 u3 u4 h0 n0 _ T108.heap _
    rw [e108]
    exact ⟨rfl, N0, rfl⟩
theorem ef_rmEK (m : MethodId) (x0 : Addr) (x1 : Addr) : entryFrame m #[(.ref x0), (.ref x1)] 2 = mkF m 0 #[.val (.ref x0), .val (.ref x1)] [] := by first | (simp [entryFrame, mkF, argsToLocals, Value.category]; done) | rfl
def QrmEK (Z : State) (a1 : Addr) (a2 : Addr) (w1 : Int32) (w2 : Int32) (w3 : Int32) (w4 : Int32) (h0 : Heap) (n0 : Nat) (v : Option Value) (h : Heap) (L : List Loc) : Prop := v = some (.int 0) ∧ Fr n0 L ∧ h = h0
set_option maxRecDepth 65536 in
set_option maxHeartbeats 40000000 in
theorem rmEK (l : Launch) (Z : State) (a0 : Array Value) (hw : ∀ d ∈ tables_1, d.before a0 Z = true) (ws : List Jvm.Cond) (a1 : Addr) (a2 : Addr) (w1 : Int32) (w2 : Int32) (w3 : Int32) (w4 : Int32) (h0 : Heap) (n0 : Nat) (Z0 : n0 ≤ h0.size) (F0 : Fld Z h0 a1 "com/example/wakeline/wakeline/model/Box" "xmin" "D" (.double 9218868437227405312)) (F1 : Fld Z h0 a1 "com/example/wakeline/wakeline/model/Box" "ymin" "D" (.double 9218868437227405312)) (F2 : Fld Z h0 a1 "com/example/wakeline/wakeline/model/Box" "xmax" "D" (.double 18442240474082181120)) (F3 : Fld Z h0 a1 "com/example/wakeline/wakeline/model/Box" "ymax" "D" (.double 18442240474082181120)) (G0 : Fld Z h0 a2 "com/example/wakeline/wakeline/model/Box" "xmin" "D" (.double (FP.i2d w1))) (G1 : Fld Z h0 a2 "com/example/wakeline/wakeline/model/Box" "ymin" "D" (.double (FP.i2d w2))) (G2 : Fld Z h0 a2 "com/example/wakeline/wakeline/model/Box" "xmax" "D" (.double (FP.i2d w3))) (G3 : Fld Z h0 a2 "com/example/wakeline/wakeline/model/Box" "ymax" "D" (.double (FP.i2d w4))) :
    MetFree l (⟨"com/example/wakeline/wakeline/model/Box", "contains", "(Lcom/example/wakeline/wakeline/model/Box;)Z"⟩ : MethodName) (head1 (Jvm.Cond.code (⟨"com/example/wakeline/wakeline/model/Box", "contains", "(Lcom/example/wakeline/wakeline/model/Box;)Z"⟩ : MethodName) prog_34_method_4_code 2 (some .boolean) :: ws) ({ frames := 0, cells := 0, slots := 0, locals := 0 } : Room)) (fun a U => a = #[(.ref a1), (.ref a2)] ∧ Z.Warmed39 U.vm ∧ U.heap = h0) (fun _ _ _ _ _ => True) (fun _ U o U' => ∃ v L, o = .returned v ∧ QrmEK Z a1 a2 w1 w2 w3 w4 h0 n0 v U'.heap L ∧ FrameEnd U o U' L ({ frames := 0, cells := 0, slots := 0, locals := 0 } : Room).cells ({ frames := 0, cells := 0, slots := 0, locals := 0 } : Room).slots) := by
  refine MetFree.of_bodySF (plainFor_of_name pn_1) hisR ?_
  intro p e s m args below meth c s₁ Bd hml0 hP hK
  obtain ⟨rfl, hZ, hh⟩ := hP
  have hx := Bd.exec
  have hby := Bd.bytes
  have hml : c.maxLocals = 2 := hml0
  have hown : s.vm.findClass "com/example/wakeline/wakeline/model/Box" = some m.cls := findClass_of_methodNamed Bd.named
  have hnm := (name_of_methodNamed Bd.named Bd.method).1
  have X0 : Stand p l e ({ frames := 0, cells := 0, slots := 0, locals := 0 } : Room) s m #[(.ref a1), (.ref a2)] below meth c s₁ [] 0 0 := Stand.of_body Bd
  have e0 : s₁.heap = h0 := by rw [← hh, Bd.state]; rfl
  have N0 := Fr.nil n0
  have pre0 : ∀ t_, Steps p.tables e below (s₁.setTop (mkF m 0 #[.val (.ref a1), .val (.ref a2)] [])) t_ → Steps p.tables e below (s₁.setTop (entryFrame m #[(.ref a1), (.ref a2)] 2)) t_ := fun t_ k_ => castTop (ef_rmEK m a1 a2) k_
  obtain ⟨T101, X101, e101, st101⟩ := getF X0 hx hZ hown (host := "") (Or.inl (hw _ (List.mem_of_getElem? (i := 21) rfl))) Via.refl e0 G0 (g := (mkF m 1 #[.val (.ref a1), .val (.ref a2)] [(.ref a2)])) rfl rfl (hb hby d6_1)
  obtain ⟨T102, X102, e102, st102⟩ := getF X101 hx hZ hown (host := "") (Or.inl (hw _ (List.mem_of_getElem? (i := 21) rfl))) Via.refl e101 F0 (g := (mkF m 5 #[.val (.ref a1), .val (.ref a2)] [(.ref a1), (.double (FP.i2d w1))])) rfl rfl (hb hby d6_5)
  have pre103 : ∀ t_, Steps p.tables e below (T102.setTop (mkF m 53 #[.val (.ref a1), .val (.ref a2)] [(.int (0 : Int32))])) t_ → Steps p.tables e below (s₁.setTop (entryFrame m #[(.ref a1), (.ref a2)] 2)) t_ := fun t_ k_ => pre0 _ (by
    show Steps p.tables e below (s₁.setTop (mkF m 0 #[.val (.ref a1), .val (.ref a2)] [])) _
    refine XS.aloadN X0.here hx rfl (hb hby d6_0) rfl rfl ?_
    show Steps p.tables e below (s₁.setTop (mkF m 1 #[.val (.ref a1), .val (.ref a2)] [(.ref a2)])) _
    refine st101 _ ?_
    show Steps p.tables e below (T101.setTop (mkF m 4 #[.val (.ref a1), .val (.ref a2)] [(.double (FP.i2d w1))])) _
    refine XS.aloadN X101.here hx rfl (hb hby d6_4) rfl rfl ?_
    show Steps p.tables e below (T101.setTop (mkF m 5 #[.val (.ref a1), .val (.ref a2)] [(.ref a1), (.double (FP.i2d w1))])) _
    refine st102 _ ?_
    show Steps p.tables e below (T102.setTop (mkF m 8 #[.val (.ref a1), .val (.ref a2)] [(.double 9218868437227405312), (.double (FP.i2d w1))])) _
    refine XS.dcmpS X102.here hx rfl (hb hby d6_8) rfl (dcmp_pinf (Jvm.Free.Fl.i2d_fin _) _) ?_
    show Steps p.tables e below (T102.setTop (mkF m 9 #[.val (.ref a1), .val (.ref a2)] [(.int (-1 : Int32))])) _
    refine XS.ifYes X102.here hx rfl (pc0 := 9) (pc' := 52) rfl (hb hby d6_9) rfl ((if0 _ _).trans (tlt (by decide)).1) (by decide) (by decide) ?_
    show Steps p.tables e below (T102.setTop (mkF m 52 #[.val (.ref a1), .val (.ref a2)] [])) _
    refine XS.iconst X102.here hx rfl (hb hby d6_52) ?_
    exact k_)
  obtain ⟨fs, hr, hrun, hended, hW, hsame⟩ := X102.leave (v := some (.int (0 : Int32))) (fun h => by rw [Bd.returns] at h; cases h)
  refine ⟨_, _, pre103 _ ?_, hrun, hended, _, _, rfl, ?_, ⟨_, rfl⟩, hW, hsame.mono (by decide) (by decide)⟩
  · show Steps p.tables e below (T102.setTop (mkF m 53 #[.val (.ref a1), .val (.ref a2)] [(.int (0 : Int32))])) _
    exact retN X102 hx (t := .boolean) Bd.returns (by simp) (hb hby d6_53) hr
  · show QrmEK Z a1 a2 w1 w2 w3 w4 h0 n0 _ T102.heap _
    rw [e102]
    exact ⟨rfl, N0, rfl⟩
theorem ef_rmAK (m : MethodId) (x0 : Addr) (x1 : Addr) : entryFrame m #[(.ref x0), (.ref x1)] 2 = mkF m 0 #[.val (.ref x0), .val (.ref x1)] [] := by first | (simp [entryFrame, mkF, argsToLocals, Value.category]; done) | rfl
def QrmAK (Z : State) (a1 : Addr) (a2 : Addr) (w1 : Int32) (w2 : Int32) (w3 : Int32) (w4 : Int32) (h0 : Heap) (n0 : Nat) (v : Option Value) (h : Heap) (L : List Loc) : Prop := v = some (.int 1) ∧ Fr n0 L ∧ h = h0
set_option maxRecDepth 65536 in
set_option maxHeartbeats 40000000 in
theorem rmAK (l : Launch) (Z : State) (a0 : Array Value) (hw : ∀ d ∈ tables_1, d.before a0 Z = true) (ws : List Jvm.Cond) (a1 : Addr) (a2 : Addr) (w1 : Int32) (w2 : Int32) (w3 : Int32) (w4 : Int32) (h0 : Heap) (n0 : Nat) (Z0 : n0 ≤ h0.size) (F0 : Fld Z h0 a1 "com/example/wakeline/wakeline/model/Box" "xmin" "D" (.double 18442240474082181120)) (F1 : Fld Z h0 a1 "com/example/wakeline/wakeline/model/Box" "ymin" "D" (.double 18442240474082181120)) (F2 : Fld Z h0 a1 "com/example/wakeline/wakeline/model/Box" "xmax" "D" (.double 9218868437227405312)) (F3 : Fld Z h0 a1 "com/example/wakeline/wakeline/model/Box" "ymax" "D" (.double 9218868437227405312)) (G0 : Fld Z h0 a2 "com/example/wakeline/wakeline/model/Box" "xmin" "D" (.double (FP.i2d w1))) (G1 : Fld Z h0 a2 "com/example/wakeline/wakeline/model/Box" "ymin" "D" (.double (FP.i2d w2))) (G2 : Fld Z h0 a2 "com/example/wakeline/wakeline/model/Box" "xmax" "D" (.double (FP.i2d w3))) (G3 : Fld Z h0 a2 "com/example/wakeline/wakeline/model/Box" "ymax" "D" (.double (FP.i2d w4))) :
    MetFree l (⟨"com/example/wakeline/wakeline/model/Box", "contains", "(Lcom/example/wakeline/wakeline/model/Box;)Z"⟩ : MethodName) (head1 (Jvm.Cond.code (⟨"com/example/wakeline/wakeline/model/Box", "contains", "(Lcom/example/wakeline/wakeline/model/Box;)Z"⟩ : MethodName) prog_34_method_4_code 2 (some .boolean) :: ws) ({ frames := 0, cells := 0, slots := 0, locals := 0 } : Room)) (fun a U => a = #[(.ref a1), (.ref a2)] ∧ Z.Warmed39 U.vm ∧ U.heap = h0) (fun _ _ _ _ _ => True) (fun _ U o U' => ∃ v L, o = .returned v ∧ QrmAK Z a1 a2 w1 w2 w3 w4 h0 n0 v U'.heap L ∧ FrameEnd U o U' L ({ frames := 0, cells := 0, slots := 0, locals := 0 } : Room).cells ({ frames := 0, cells := 0, slots := 0, locals := 0 } : Room).slots) := by
  refine MetFree.of_bodySF (plainFor_of_name pn_1) hisR ?_
  intro p e s m args below meth c s₁ Bd hml0 hP hK
  obtain ⟨rfl, hZ, hh⟩ := hP
  have hx := Bd.exec
  have hby := Bd.bytes
  have hml : c.maxLocals = 2 := hml0
  have hown : s.vm.findClass "com/example/wakeline/wakeline/model/Box" = some m.cls := findClass_of_methodNamed Bd.named
  have hnm := (name_of_methodNamed Bd.named Bd.method).1
  have X0 : Stand p l e ({ frames := 0, cells := 0, slots := 0, locals := 0 } : Room) s m #[(.ref a1), (.ref a2)] below meth c s₁ [] 0 0 := Stand.of_body Bd
  have e0 : s₁.heap = h0 := by rw [← hh, Bd.state]; rfl
  have N0 := Fr.nil n0
  have pre0 : ∀ t_, Steps p.tables e below (s₁.setTop (mkF m 0 #[.val (.ref a1), .val (.ref a2)] [])) t_ → Steps p.tables e below (s₁.setTop (entryFrame m #[(.ref a1), (.ref a2)] 2)) t_ := fun t_ k_ => castTop (ef_rmAK m a1 a2) k_
  obtain ⟨T101, X101, e101, st101⟩ := getF X0 hx hZ hown (host := "") (Or.inl (hw _ (List.mem_of_getElem? (i := 21) rfl))) Via.refl e0 G0 (g := (mkF m 1 #[.val (.ref a1), .val (.ref a2)] [(.ref a2)])) rfl rfl (hb hby d6_1)
  obtain ⟨T102, X102, e102, st102⟩ := getF X101 hx hZ hown (host := "") (Or.inl (hw _ (List.mem_of_getElem? (i := 21) rfl))) Via.refl e101 F0 (g := (mkF m 5 #[.val (.ref a1), .val (.ref a2)] [(.ref a1), (.double (FP.i2d w1))])) rfl rfl (hb hby d6_5)
  obtain ⟨T103, X103, e103, st103⟩ := getF X102 hx hZ hown (host := "") (Or.inl (hw _ (List.mem_of_getElem? (i := 25) rfl))) Via.refl e102 G2 (g := (mkF m 13 #[.val (.ref a1), .val (.ref a2)] [(.ref a2)])) rfl rfl (hb hby d6_13)
  obtain ⟨T104, X104, e104, st104⟩ := getF X103 hx hZ hown (host := "") (Or.inl (hw _ (List.mem_of_getElem? (i := 25) rfl))) Via.refl e103 F2 (g := (mkF m 17 #[.val (.ref a1), .val (.ref a2)] [(.ref a1), (.double (FP.i2d w3))])) rfl rfl (hb hby d6_17)
  obtain ⟨T105, X105, e105, st105⟩ := getF X104 hx hZ hown (host := "") (Or.inl (hw _ (List.mem_of_getElem? (i := 23) rfl))) Via.refl e104 G1 (g := (mkF m 25 #[.val (.ref a1), .val (.ref a2)] [(.ref a2)])) rfl rfl (hb hby d6_25)
  obtain ⟨T106, X106, e106, st106⟩ := getF X105 hx hZ hown (host := "") (Or.inl (hw _ (List.mem_of_getElem? (i := 23) rfl))) Via.refl e105 F1 (g := (mkF m 29 #[.val (.ref a1), .val (.ref a2)] [(.ref a1), (.double (FP.i2d w2))])) rfl rfl (hb hby d6_29)
  obtain ⟨T107, X107, e107, st107⟩ := getF X106 hx hZ hown (host := "") (Or.inl (hw _ (List.mem_of_getElem? (i := 27) rfl))) Via.refl e106 G3 (g := (mkF m 37 #[.val (.ref a1), .val (.ref a2)] [(.ref a2)])) rfl rfl (hb hby d6_37)
  obtain ⟨T108, X108, e108, st108⟩ := getF X107 hx hZ hown (host := "") (Or.inl (hw _ (List.mem_of_getElem? (i := 27) rfl))) Via.refl e107 F3 (g := (mkF m 41 #[.val (.ref a1), .val (.ref a2)] [(.ref a1), (.double (FP.i2d w4))])) rfl rfl (hb hby d6_41)
  have pre109 : ∀ t_, Steps p.tables e below (T108.setTop (mkF m 53 #[.val (.ref a1), .val (.ref a2)] [(.int (1 : Int32))])) t_ → Steps p.tables e below (s₁.setTop (entryFrame m #[(.ref a1), (.ref a2)] 2)) t_ := fun t_ k_ => pre0 _ (by
    show Steps p.tables e below (s₁.setTop (mkF m 0 #[.val (.ref a1), .val (.ref a2)] [])) _
    refine XS.aloadN X0.here hx rfl (hb hby d6_0) rfl rfl ?_
    show Steps p.tables e below (s₁.setTop (mkF m 1 #[.val (.ref a1), .val (.ref a2)] [(.ref a2)])) _
    refine st101 _ ?_
    show Steps p.tables e below (T101.setTop (mkF m 4 #[.val (.ref a1), .val (.ref a2)] [(.double (FP.i2d w1))])) _
    refine XS.aloadN X101.here hx rfl (hb hby d6_4) rfl rfl ?_
    show Steps p.tables e below (T101.setTop (mkF m 5 #[.val (.ref a1), .val (.ref a2)] [(.ref a1), (.double (FP.i2d w1))])) _
    refine st102 _ ?_
    show Steps p.tables e below (T102.setTop (mkF m 8 #[.val (.ref a1), .val (.ref a2)] [(.double 18442240474082181120), (.double (FP.i2d w1))])) _
    refine XS.dcmpS X102.here hx rfl (hb hby d6_8) rfl (dcmp_ninf (Jvm.Free.Fl.i2d_fin _) _) ?_
    show Steps p.tables e below (T102.setTop (mkF m 9 #[.val (.ref a1), .val (.ref a2)] [(.int (1 : Int32))])) _
    refine XS.ifNo X102.here hx rfl (hb hby d6_9) rfl ((if0 _ _).trans (flt (by decide)).1) ?_
    show Steps p.tables e below (T102.setTop (mkF m 12 #[.val (.ref a1), .val (.ref a2)] [])) _
    refine XS.aloadN X102.here hx rfl (hb hby d6_12) rfl rfl ?_
    show Steps p.tables e below (T102.setTop (mkF m 13 #[.val (.ref a1), .val (.ref a2)] [(.ref a2)])) _
    refine st103 _ ?_
    show Steps p.tables e below (T103.setTop (mkF m 16 #[.val (.ref a1), .val (.ref a2)] [(.double (FP.i2d w3))])) _
    refine XS.aloadN X103.here hx rfl (hb hby d6_16) rfl rfl ?_
    show Steps p.tables e below (T103.setTop (mkF m 17 #[.val (.ref a1), .val (.ref a2)] [(.ref a1), (.double (FP.i2d w3))])) _
    refine st104 _ ?_
    show Steps p.tables e below (T104.setTop (mkF m 20 #[.val (.ref a1), .val (.ref a2)] [(.double 9218868437227405312), (.double (FP.i2d w3))])) _
    refine XS.dcmpS X104.here hx rfl (hb hby d6_20) rfl (dcmp_pinf (Jvm.Free.Fl.i2d_fin _) _) ?_
    show Steps p.tables e below (T104.setTop (mkF m 21 #[.val (.ref a1), .val (.ref a2)] [(.int (-1 : Int32))])) _
    refine XS.ifNo X104.here hx rfl (hb hby d6_21) rfl ((if0 _ _).trans (flt (by decide)).2.2.1) ?_
    show Steps p.tables e below (T104.setTop (mkF m 24 #[.val (.ref a1), .val (.ref a2)] [])) _
    refine XS.aloadN X104.here hx rfl (hb hby d6_24) rfl rfl ?_
    show Steps p.tables e below (T104.setTop (mkF m 25 #[.val (.ref a1), .val (.ref a2)] [(.ref a2)])) _
    refine st105 _ ?_
    show Steps p.tables e below (T105.setTop (mkF m 28 #[.val (.ref a1), .val (.ref a2)] [(.double (FP.i2d w2))])) _
    refine XS.aloadN X105.here hx rfl (hb hby d6_28) rfl rfl ?_
    show Steps p.tables e below (T105.setTop (mkF m 29 #[.val (.ref a1), .val (.ref a2)] [(.ref a1), (.double (FP.i2d w2))])) _
    refine st106 _ ?_
    show Steps p.tables e below (T106.setTop (mkF m 32 #[.val (.ref a1), .val (.ref a2)] [(.double 18442240474082181120), (.double (FP.i2d w2))])) _
    refine XS.dcmpS X106.here hx rfl (hb hby d6_32) rfl (dcmp_ninf (Jvm.Free.Fl.i2d_fin _) _) ?_
    show Steps p.tables e below (T106.setTop (mkF m 33 #[.val (.ref a1), .val (.ref a2)] [(.int (1 : Int32))])) _
    refine XS.ifNo X106.here hx rfl (hb hby d6_33) rfl ((if0 _ _).trans (flt (by decide)).1) ?_
    show Steps p.tables e below (T106.setTop (mkF m 36 #[.val (.ref a1), .val (.ref a2)] [])) _
    refine XS.aloadN X106.here hx rfl (hb hby d6_36) rfl rfl ?_
    show Steps p.tables e below (T106.setTop (mkF m 37 #[.val (.ref a1), .val (.ref a2)] [(.ref a2)])) _
    refine st107 _ ?_
    show Steps p.tables e below (T107.setTop (mkF m 40 #[.val (.ref a1), .val (.ref a2)] [(.double (FP.i2d w4))])) _
    refine XS.aloadN X107.here hx rfl (hb hby d6_40) rfl rfl ?_
    show Steps p.tables e below (T107.setTop (mkF m 41 #[.val (.ref a1), .val (.ref a2)] [(.ref a1), (.double (FP.i2d w4))])) _
    refine st108 _ ?_
    show Steps p.tables e below (T108.setTop (mkF m 44 #[.val (.ref a1), .val (.ref a2)] [(.double 9218868437227405312), (.double (FP.i2d w4))])) _
    refine XS.dcmpS X108.here hx rfl (hb hby d6_44) rfl (dcmp_pinf (Jvm.Free.Fl.i2d_fin _) _) ?_
    show Steps p.tables e below (T108.setTop (mkF m 45 #[.val (.ref a1), .val (.ref a2)] [(.int (-1 : Int32))])) _
    refine XS.ifNo X108.here hx rfl (hb hby d6_45) rfl ((if0 _ _).trans (flt (by decide)).2.2.1) ?_
    show Steps p.tables e below (T108.setTop (mkF m 48 #[.val (.ref a1), .val (.ref a2)] [])) _
    refine XS.iconst X108.here hx rfl (hb hby d6_48) ?_
    show Steps p.tables e below (T108.setTop (mkF m 49 #[.val (.ref a1), .val (.ref a2)] [(.int (1 : Int32))])) _
    refine XS.goto X108.here hx rfl (pc0 := 49) (pc' := 53) rfl (hb hby d6_49) (by decide) (by decide) ?_
    exact k_)
  obtain ⟨fs, hr, hrun, hended, hW, hsame⟩ := X108.leave (v := some (.int (1 : Int32))) (fun h => by rw [Bd.returns] at h; cases h)
  refine ⟨_, _, pre109 _ ?_, hrun, hended, _, _, rfl, ?_, ⟨_, rfl⟩, hW, hsame.mono (by decide) (by decide)⟩
  · show Steps p.tables e below (T108.setTop (mkF m 53 #[.val (.ref a1), .val (.ref a2)] [(.int (1 : Int32))])) _
    exact retN X108 hx (t := .boolean) Bd.returns (by simp) (hb hby d6_53) hr
  · show QrmAK Z a1 a2 w1 w2 w3 w4 h0 n0 _ T108.heap _
    rw [e108]
    exact ⟨rfl, N0, rfl⟩
theorem pd_1 : parseMethodDescriptor "(II)I" = some ⟨[.int, .int], some .int⟩ := by decide +kernel
theorem pd_2 : parseMethodDescriptor "(DDDD)V" = some ⟨[.double, .double, .double, .double], none⟩ := by decide +kernel
theorem pd_3 : parseMethodDescriptor "(Lcom/example/wakeline/wakeline/model/Box;)Z" = some ⟨[(.object "com/example/wakeline/wakeline/model/Box")], some .boolean⟩ := by decide +kernel
theorem pd_4 : parseMethodDescriptor "(IIIIII)Z" = some ⟨[.int, .int, .int, .int, .int, .int], some .boolean⟩ := by decide +kernel
theorem ef_rm0 (m : MethodId) (x0 : Int64) (x1 : Int64) (x2 : Int64) (x3 : Int64) (x4 : Int32) : entryFrame m #[(.long x0), (.long x1), (.long x2), (.long x3), (.int x4)] maxLocals = mkF m 0 #[.val (.long x0), .second, .val (.long x1), .second, .val (.long x2), .second, .val (.long x3), .second, .val (.int x4), .unset, .unset, .unset, .unset, .unset, .unset, .unset, .unset, .unset, .unset, .unset, .unset, .unset, .unset, .unset, .unset, .unset, .unset, .unset, .unset] [] := by first | (simp [entryFrame, mkF, argsToLocals, Value.category, maxLocals]; done) | rfl
def Qrm0 (Z : State) (q1 : Int64) (q2 : Int64) (q3 : Int64) (q4 : Int64) (p5 : Int32) (aA : Addr) (aE : Addr) (h0 : Heap) (n0 : Nat) (v : Option Value) (h : Heap) (L : List Loc) : Prop := v = some (.int 1) ∧ Fr n0 L
set_option maxRecDepth 65536 in
set_option maxHeartbeats 40000000 in
theorem rm0 (l : Launch) (Z : State) (a0 : Array Value) (hw : ∀ d ∈ tables_1, d.before a0 Z = true) (ws : List Jvm.Cond) (q1 : Int64) (q2 : Int64) (q3 : Int64) (q4 : Int64) (p5 : Int32) (aA : Addr) (aE : Addr) (h0 : Heap) (n0 : Nat) (Z0 : n0 ≤ h0.size) (O : Old Z n0 h0) (S_A : Sta Z Z.heap "com/example/wakeline/wakeline/model/Box" "ALL" "Lcom/example/wakeline/wakeline/model/Box;" (.ref aA)) (S_E : Sta Z Z.heap "com/example/wakeline/wakeline/model/Box" "EMPTY" "Lcom/example/wakeline/wakeline/model/Box;" (.ref aE)) (X_A : Exa Z Z.heap aA "com/example/wakeline/wakeline/model/Box") (X_E : Exa Z Z.heap aE "com/example/wakeline/wakeline/model/Box") (A0 : Fld Z Z.heap aA "com/example/wakeline/wakeline/model/Box" "xmin" "D" (.double 18442240474082181120)) (A1 : Fld Z Z.heap aA "com/example/wakeline/wakeline/model/Box" "ymin" "D" (.double 18442240474082181120)) (A2 : Fld Z Z.heap aA "com/example/wakeline/wakeline/model/Box" "xmax" "D" (.double 9218868437227405312)) (A3 : Fld Z Z.heap aA "com/example/wakeline/wakeline/model/Box" "ymax" "D" (.double 9218868437227405312)) (E0 : Fld Z Z.heap aE "com/example/wakeline/wakeline/model/Box" "xmin" "D" (.double 9218868437227405312)) (E1 : Fld Z Z.heap aE "com/example/wakeline/wakeline/model/Box" "ymin" "D" (.double 9218868437227405312)) (E2 : Fld Z Z.heap aE "com/example/wakeline/wakeline/model/Box" "xmax" "D" (.double 18442240474082181120)) (E3 : Fld Z Z.heap aE "com/example/wakeline/wakeline/model/Box" "ymax" "D" (.double 18442240474082181120)) :
    MetFree l x (head1 (Jvm.Cond.code x code maxLocals ret :: ws) room_1) (fun a U => a = #[(.long q1), (.long q2), (.long q3), (.long q4), (.int p5)] ∧ Z.Warmed39 U.vm ∧ U.heap = h0) (fun _ _ _ _ _ => True) (fun _ U o U' => ∃ v L, o = .returned v ∧ Qrm0 Z q1 q2 q3 q4 p5 aA aE h0 n0 v U'.heap L ∧ FrameEnd U o U' L room_1.cells room_1.slots) := by
  refine MetFree.of_bodySF (plainFor_of_name pn_2) hisR ?_
  intro p e s m args below meth c s₁ Bd hml0 hP hK
  obtain ⟨rfl, hZ, hh⟩ := hP
  have hx := Bd.exec
  have hby := Bd.bytes
  have hml : c.maxLocals = 29 := hml0
  have hown : s.vm.findClass "com/example/wakeline/wakeline/model/BoxContainsPinLaw" = some m.cls := findClass_of_methodNamed Bd.named
  have hnm := (name_of_methodNamed Bd.named Bd.method).1
  have X0 : Stand p l e room_1 s m #[(.long q1), (.long q2), (.long q3), (.long q4), (.int p5)] below meth c s₁ [] 0 0 := Stand.of_body Bd
  have e0 : s₁.heap = h0 := by rw [← hh, Bd.state]; rfl
  have N0 := Fr.nil n0
  have pre0 : ∀ t_, Steps p.tables e below (s₁.setTop (mkF m 0 #[.val (.long q1), .second, .val (.long q2), .second, .val (.long q3), .second, .val (.long q4), .second, .val (.int p5), .unset, .unset, .unset, .unset, .unset, .unset, .unset, .unset, .unset, .unset, .unset, .unset, .unset, .unset, .unset, .unset, .unset, .unset, .unset, .unset] [])) t_ → Steps p.tables e below (s₁.setTop (entryFrame m #[(.long q1), (.long q2), (.long q3), (.long q4), (.int p5)] maxLocals)) t_ := fun t_ k_ => castTop (ef_rm0 m q1 q2 q3 q4 p5) k_
  have pre101 : ∀ t_, Steps p.tables e below (s₁.setTop (mkF m 52 #[.val (.long q1), .second, .val (.long q2), .second, .val (.long q3), .second, .val (.long q4), .second, .val (.int p5), .val (.int (((q1.toUInt64 >>> ((32 : Int32) &&& 0x3f).toInt64.toUInt64).toInt64).toInt32)), .val (.int (q1.toInt32)), .val (.int (((q2.toUInt64 >>> ((32 : Int32) &&& 0x3f).toInt64.toUInt64).toInt64).toInt32)), .val (.int (q2.toInt32)), .val (.int (((q3.toUInt64 >>> ((32 : Int32) &&& 0x3f).toInt64.toUInt64).toInt64).toInt32)), .val (.int (q3.toInt32)), .val (.int (((q4.toUInt64 >>> ((32 : Int32) &&& 0x3f).toInt64.toUInt64).toInt64).toInt32)), .val (.int (q4.toInt32)), .unset, .unset, .unset, .unset, .unset, .unset, .unset, .unset, .unset, .unset, .unset, .unset] [(.int (q1.toInt32)), (.int (((q1.toUInt64 >>> ((32 : Int32) &&& 0x3f).toInt64.toUInt64).toInt64).toInt32))])) t_ → Steps p.tables e below (s₁.setTop (entryFrame m #[(.long q1), (.long q2), (.long q3), (.long q4), (.int p5)] maxLocals)) t_ := fun t_ k_ => pre0 _ (by
    show Steps p.tables e below (s₁.setTop (mkF m 0 #[.val (.long q1), .second, .val (.long q2), .second, .val (.long q3), .second, .val (.long q4), .second, .val (.int p5), .unset, .unset, .unset, .unset, .unset, .unset, .unset, .unset, .unset, .unset, .unset, .unset, .unset, .unset, .unset, .unset, .unset, .unset, .unset, .unset] [])) _
    refine XS.lloadN X0.here hx rfl (hb hby at_0) rfl ?_
    show Steps p.tables e below (s₁.setTop (mkF m 1 #[.val (.long q1), .second, .val (.long q2), .second, .val (.long q3), .second, .val (.long q4), .second, .val (.int p5), .unset, .unset, .unset, .unset, .unset, .unset, .unset, .unset, .unset, .unset, .unset, .unset, .unset, .unset, .unset, .unset, .unset, .unset, .unset, .unset] [(.long q1)])) _
    refine XS.bipush X0.here hx rfl (hb hby at_1) ?_
    show Steps p.tables e below (s₁.setTop (mkF m 3 #[.val (.long q1), .second, .val (.long q2), .second, .val (.long q3), .second, .val (.long q4), .second, .val (.int p5), .unset, .unset, .unset, .unset, .unset, .unset, .unset, .unset, .unset, .unset, .unset, .unset, .unset, .unset, .unset, .unset, .unset, .unset, .unset, .unset] [(.int (32 : Int32)), (.long q1)])) _
    refine XS.lushr X0.here hx rfl (hb hby at_3) rfl ?_
    show Steps p.tables e below (s₁.setTop (mkF m 4 #[.val (.long q1), .second, .val (.long q2), .second, .val (.long q3), .second, .val (.long q4), .second, .val (.int p5), .unset, .unset, .unset, .unset, .unset, .unset, .unset, .unset, .unset, .unset, .unset, .unset, .unset, .unset, .unset, .unset, .unset, .unset, .unset, .unset] [(.long ((q1.toUInt64 >>> ((32 : Int32) &&& 0x3f).toInt64.toUInt64).toInt64))])) _
    refine XS.l2i X0.here hx rfl (hb hby at_4) rfl ?_
    show Steps p.tables e below (s₁.setTop (mkF m 5 #[.val (.long q1), .second, .val (.long q2), .second, .val (.long q3), .second, .val (.long q4), .second, .val (.int p5), .unset, .unset, .unset, .unset, .unset, .unset, .unset, .unset, .unset, .unset, .unset, .unset, .unset, .unset, .unset, .unset, .unset, .unset, .unset, .unset] [(.int (((q1.toUInt64 >>> ((32 : Int32) &&& 0x3f).toInt64.toUInt64).toInt64).toInt32))])) _
    refine XS.istore X0.here hx rfl (hb hby at_5) rfl (l' := #[.val (.long q1), .second, .val (.long q2), .second, .val (.long q3), .second, .val (.long q4), .second, .val (.int p5), .val (.int (((q1.toUInt64 >>> ((32 : Int32) &&& 0x3f).toInt64.toUInt64).toInt64).toInt32)), .unset, .unset, .unset, .unset, .unset, .unset, .unset, .unset, .unset, .unset, .unset, .unset, .unset, .unset, .unset, .unset, .unset, .unset, .unset]) rfl ?_
    show Steps p.tables e below (s₁.setTop (mkF m 7 #[.val (.long q1), .second, .val (.long q2), .second, .val (.long q3), .second, .val (.long q4), .second, .val (.int p5), .val (.int (((q1.toUInt64 >>> ((32 : Int32) &&& 0x3f).toInt64.toUInt64).toInt64).toInt32)), .unset, .unset, .unset, .unset, .unset, .unset, .unset, .unset, .unset, .unset, .unset, .unset, .unset, .unset, .unset, .unset, .unset, .unset, .unset] [])) _
    refine XS.lloadN X0.here hx rfl (hb hby at_7) rfl ?_
    show Steps p.tables e below (s₁.setTop (mkF m 8 #[.val (.long q1), .second, .val (.long q2), .second, .val (.long q3), .second, .val (.long q4), .second, .val (.int p5), .val (.int (((q1.toUInt64 >>> ((32 : Int32) &&& 0x3f).toInt64.toUInt64).toInt64).toInt32)), .unset, .unset, .unset, .unset, .unset, .unset, .unset, .unset, .unset, .unset, .unset, .unset, .unset, .unset, .unset, .unset, .unset, .unset, .unset] [(.long q1)])) _
    refine XS.l2i X0.here hx rfl (hb hby at_8) rfl ?_
    show Steps p.tables e below (s₁.setTop (mkF m 9 #[.val (.long q1), .second, .val (.long q2), .second, .val (.long q3), .second, .val (.long q4), .second, .val (.int p5), .val (.int (((q1.toUInt64 >>> ((32 : Int32) &&& 0x3f).toInt64.toUInt64).toInt64).toInt32)), .unset, .unset, .unset, .unset, .unset, .unset, .unset, .unset, .unset, .unset, .unset, .unset, .unset, .unset, .unset, .unset, .unset, .unset, .unset] [(.int (q1.toInt32))])) _
    refine XS.istore X0.here hx rfl (hb hby at_9) rfl (l' := #[.val (.long q1), .second, .val (.long q2), .second, .val (.long q3), .second, .val (.long q4), .second, .val (.int p5), .val (.int (((q1.toUInt64 >>> ((32 : Int32) &&& 0x3f).toInt64.toUInt64).toInt64).toInt32)), .val (.int (q1.toInt32)), .unset, .unset, .unset, .unset, .unset, .unset, .unset, .unset, .unset, .unset, .unset, .unset, .unset, .unset, .unset, .unset, .unset, .unset]) rfl ?_
    show Steps p.tables e below (s₁.setTop (mkF m 11 #[.val (.long q1), .second, .val (.long q2), .second, .val (.long q3), .second, .val (.long q4), .second, .val (.int p5), .val (.int (((q1.toUInt64 >>> ((32 : Int32) &&& 0x3f).toInt64.toUInt64).toInt64).toInt32)), .val (.int (q1.toInt32)), .unset, .unset, .unset, .unset, .unset, .unset, .unset, .unset, .unset, .unset, .unset, .unset, .unset, .unset, .unset, .unset, .unset, .unset] [])) _
    refine XS.lloadN X0.here hx rfl (hb hby at_11) rfl ?_
    show Steps p.tables e below (s₁.setTop (mkF m 12 #[.val (.long q1), .second, .val (.long q2), .second, .val (.long q3), .second, .val (.long q4), .second, .val (.int p5), .val (.int (((q1.toUInt64 >>> ((32 : Int32) &&& 0x3f).toInt64.toUInt64).toInt64).toInt32)), .val (.int (q1.toInt32)), .unset, .unset, .unset, .unset, .unset, .unset, .unset, .unset, .unset, .unset, .unset, .unset, .unset, .unset, .unset, .unset, .unset, .unset] [(.long q2)])) _
    refine XS.bipush X0.here hx rfl (hb hby at_12) ?_
    show Steps p.tables e below (s₁.setTop (mkF m 14 #[.val (.long q1), .second, .val (.long q2), .second, .val (.long q3), .second, .val (.long q4), .second, .val (.int p5), .val (.int (((q1.toUInt64 >>> ((32 : Int32) &&& 0x3f).toInt64.toUInt64).toInt64).toInt32)), .val (.int (q1.toInt32)), .unset, .unset, .unset, .unset, .unset, .unset, .unset, .unset, .unset, .unset, .unset, .unset, .unset, .unset, .unset, .unset, .unset, .unset] [(.int (32 : Int32)), (.long q2)])) _
    refine XS.lushr X0.here hx rfl (hb hby at_14) rfl ?_
    show Steps p.tables e below (s₁.setTop (mkF m 15 #[.val (.long q1), .second, .val (.long q2), .second, .val (.long q3), .second, .val (.long q4), .second, .val (.int p5), .val (.int (((q1.toUInt64 >>> ((32 : Int32) &&& 0x3f).toInt64.toUInt64).toInt64).toInt32)), .val (.int (q1.toInt32)), .unset, .unset, .unset, .unset, .unset, .unset, .unset, .unset, .unset, .unset, .unset, .unset, .unset, .unset, .unset, .unset, .unset, .unset] [(.long ((q2.toUInt64 >>> ((32 : Int32) &&& 0x3f).toInt64.toUInt64).toInt64))])) _
    refine XS.l2i X0.here hx rfl (hb hby at_15) rfl ?_
    show Steps p.tables e below (s₁.setTop (mkF m 16 #[.val (.long q1), .second, .val (.long q2), .second, .val (.long q3), .second, .val (.long q4), .second, .val (.int p5), .val (.int (((q1.toUInt64 >>> ((32 : Int32) &&& 0x3f).toInt64.toUInt64).toInt64).toInt32)), .val (.int (q1.toInt32)), .unset, .unset, .unset, .unset, .unset, .unset, .unset, .unset, .unset, .unset, .unset, .unset, .unset, .unset, .unset, .unset, .unset, .unset] [(.int (((q2.toUInt64 >>> ((32 : Int32) &&& 0x3f).toInt64.toUInt64).toInt64).toInt32))])) _
    refine XS.istore X0.here hx rfl (hb hby at_16) rfl (l' := #[.val (.long q1), .second, .val (.long q2), .second, .val (.long q3), .second, .val (.long q4), .second, .val (.int p5), .val (.int (((q1.toUInt64 >>> ((32 : Int32) &&& 0x3f).toInt64.toUInt64).toInt64).toInt32)), .val (.int (q1.toInt32)), .val (.int (((q2.toUInt64 >>> ((32 : Int32) &&& 0x3f).toInt64.toUInt64).toInt64).toInt32)), .unset, .unset, .unset, .unset, .unset, .unset, .unset, .unset, .unset, .unset, .unset, .unset, .unset, .unset, .unset, .unset, .unset]) rfl ?_
    show Steps p.tables e below (s₁.setTop (mkF m 18 #[.val (.long q1), .second, .val (.long q2), .second, .val (.long q3), .second, .val (.long q4), .second, .val (.int p5), .val (.int (((q1.toUInt64 >>> ((32 : Int32) &&& 0x3f).toInt64.toUInt64).toInt64).toInt32)), .val (.int (q1.toInt32)), .val (.int (((q2.toUInt64 >>> ((32 : Int32) &&& 0x3f).toInt64.toUInt64).toInt64).toInt32)), .unset, .unset, .unset, .unset, .unset, .unset, .unset, .unset, .unset, .unset, .unset, .unset, .unset, .unset, .unset, .unset, .unset] [])) _
    refine XS.lloadN X0.here hx rfl (hb hby at_18) rfl ?_
    show Steps p.tables e below (s₁.setTop (mkF m 19 #[.val (.long q1), .second, .val (.long q2), .second, .val (.long q3), .second, .val (.long q4), .second, .val (.int p5), .val (.int (((q1.toUInt64 >>> ((32 : Int32) &&& 0x3f).toInt64.toUInt64).toInt64).toInt32)), .val (.int (q1.toInt32)), .val (.int (((q2.toUInt64 >>> ((32 : Int32) &&& 0x3f).toInt64.toUInt64).toInt64).toInt32)), .unset, .unset, .unset, .unset, .unset, .unset, .unset, .unset, .unset, .unset, .unset, .unset, .unset, .unset, .unset, .unset, .unset] [(.long q2)])) _
    refine XS.l2i X0.here hx rfl (hb hby at_19) rfl ?_
    show Steps p.tables e below (s₁.setTop (mkF m 20 #[.val (.long q1), .second, .val (.long q2), .second, .val (.long q3), .second, .val (.long q4), .second, .val (.int p5), .val (.int (((q1.toUInt64 >>> ((32 : Int32) &&& 0x3f).toInt64.toUInt64).toInt64).toInt32)), .val (.int (q1.toInt32)), .val (.int (((q2.toUInt64 >>> ((32 : Int32) &&& 0x3f).toInt64.toUInt64).toInt64).toInt32)), .unset, .unset, .unset, .unset, .unset, .unset, .unset, .unset, .unset, .unset, .unset, .unset, .unset, .unset, .unset, .unset, .unset] [(.int (q2.toInt32))])) _
    refine XS.istore X0.here hx rfl (hb hby at_20) rfl (l' := #[.val (.long q1), .second, .val (.long q2), .second, .val (.long q3), .second, .val (.long q4), .second, .val (.int p5), .val (.int (((q1.toUInt64 >>> ((32 : Int32) &&& 0x3f).toInt64.toUInt64).toInt64).toInt32)), .val (.int (q1.toInt32)), .val (.int (((q2.toUInt64 >>> ((32 : Int32) &&& 0x3f).toInt64.toUInt64).toInt64).toInt32)), .val (.int (q2.toInt32)), .unset, .unset, .unset, .unset, .unset, .unset, .unset, .unset, .unset, .unset, .unset, .unset, .unset, .unset, .unset, .unset]) rfl ?_
    show Steps p.tables e below (s₁.setTop (mkF m 22 #[.val (.long q1), .second, .val (.long q2), .second, .val (.long q3), .second, .val (.long q4), .second, .val (.int p5), .val (.int (((q1.toUInt64 >>> ((32 : Int32) &&& 0x3f).toInt64.toUInt64).toInt64).toInt32)), .val (.int (q1.toInt32)), .val (.int (((q2.toUInt64 >>> ((32 : Int32) &&& 0x3f).toInt64.toUInt64).toInt64).toInt32)), .val (.int (q2.toInt32)), .unset, .unset, .unset, .unset, .unset, .unset, .unset, .unset, .unset, .unset, .unset, .unset, .unset, .unset, .unset, .unset] [])) _
    refine XS.lload X0.here hx rfl (hb hby at_22) rfl ?_
    show Steps p.tables e below (s₁.setTop (mkF m 24 #[.val (.long q1), .second, .val (.long q2), .second, .val (.long q3), .second, .val (.long q4), .second, .val (.int p5), .val (.int (((q1.toUInt64 >>> ((32 : Int32) &&& 0x3f).toInt64.toUInt64).toInt64).toInt32)), .val (.int (q1.toInt32)), .val (.int (((q2.toUInt64 >>> ((32 : Int32) &&& 0x3f).toInt64.toUInt64).toInt64).toInt32)), .val (.int (q2.toInt32)), .unset, .unset, .unset, .unset, .unset, .unset, .unset, .unset, .unset, .unset, .unset, .unset, .unset, .unset, .unset, .unset] [(.long q3)])) _
    refine XS.bipush X0.here hx rfl (hb hby at_24) ?_
    show Steps p.tables e below (s₁.setTop (mkF m 26 #[.val (.long q1), .second, .val (.long q2), .second, .val (.long q3), .second, .val (.long q4), .second, .val (.int p5), .val (.int (((q1.toUInt64 >>> ((32 : Int32) &&& 0x3f).toInt64.toUInt64).toInt64).toInt32)), .val (.int (q1.toInt32)), .val (.int (((q2.toUInt64 >>> ((32 : Int32) &&& 0x3f).toInt64.toUInt64).toInt64).toInt32)), .val (.int (q2.toInt32)), .unset, .unset, .unset, .unset, .unset, .unset, .unset, .unset, .unset, .unset, .unset, .unset, .unset, .unset, .unset, .unset] [(.int (32 : Int32)), (.long q3)])) _
    refine XS.lushr X0.here hx rfl (hb hby at_26) rfl ?_
    show Steps p.tables e below (s₁.setTop (mkF m 27 #[.val (.long q1), .second, .val (.long q2), .second, .val (.long q3), .second, .val (.long q4), .second, .val (.int p5), .val (.int (((q1.toUInt64 >>> ((32 : Int32) &&& 0x3f).toInt64.toUInt64).toInt64).toInt32)), .val (.int (q1.toInt32)), .val (.int (((q2.toUInt64 >>> ((32 : Int32) &&& 0x3f).toInt64.toUInt64).toInt64).toInt32)), .val (.int (q2.toInt32)), .unset, .unset, .unset, .unset, .unset, .unset, .unset, .unset, .unset, .unset, .unset, .unset, .unset, .unset, .unset, .unset] [(.long ((q3.toUInt64 >>> ((32 : Int32) &&& 0x3f).toInt64.toUInt64).toInt64))])) _
    refine XS.l2i X0.here hx rfl (hb hby at_27) rfl ?_
    show Steps p.tables e below (s₁.setTop (mkF m 28 #[.val (.long q1), .second, .val (.long q2), .second, .val (.long q3), .second, .val (.long q4), .second, .val (.int p5), .val (.int (((q1.toUInt64 >>> ((32 : Int32) &&& 0x3f).toInt64.toUInt64).toInt64).toInt32)), .val (.int (q1.toInt32)), .val (.int (((q2.toUInt64 >>> ((32 : Int32) &&& 0x3f).toInt64.toUInt64).toInt64).toInt32)), .val (.int (q2.toInt32)), .unset, .unset, .unset, .unset, .unset, .unset, .unset, .unset, .unset, .unset, .unset, .unset, .unset, .unset, .unset, .unset] [(.int (((q3.toUInt64 >>> ((32 : Int32) &&& 0x3f).toInt64.toUInt64).toInt64).toInt32))])) _
    refine XS.istore X0.here hx rfl (hb hby at_28) rfl (l' := #[.val (.long q1), .second, .val (.long q2), .second, .val (.long q3), .second, .val (.long q4), .second, .val (.int p5), .val (.int (((q1.toUInt64 >>> ((32 : Int32) &&& 0x3f).toInt64.toUInt64).toInt64).toInt32)), .val (.int (q1.toInt32)), .val (.int (((q2.toUInt64 >>> ((32 : Int32) &&& 0x3f).toInt64.toUInt64).toInt64).toInt32)), .val (.int (q2.toInt32)), .val (.int (((q3.toUInt64 >>> ((32 : Int32) &&& 0x3f).toInt64.toUInt64).toInt64).toInt32)), .unset, .unset, .unset, .unset, .unset, .unset, .unset, .unset, .unset, .unset, .unset, .unset, .unset, .unset, .unset]) rfl ?_
    show Steps p.tables e below (s₁.setTop (mkF m 30 #[.val (.long q1), .second, .val (.long q2), .second, .val (.long q3), .second, .val (.long q4), .second, .val (.int p5), .val (.int (((q1.toUInt64 >>> ((32 : Int32) &&& 0x3f).toInt64.toUInt64).toInt64).toInt32)), .val (.int (q1.toInt32)), .val (.int (((q2.toUInt64 >>> ((32 : Int32) &&& 0x3f).toInt64.toUInt64).toInt64).toInt32)), .val (.int (q2.toInt32)), .val (.int (((q3.toUInt64 >>> ((32 : Int32) &&& 0x3f).toInt64.toUInt64).toInt64).toInt32)), .unset, .unset, .unset, .unset, .unset, .unset, .unset, .unset, .unset, .unset, .unset, .unset, .unset, .unset, .unset] [])) _
    refine XS.lload X0.here hx rfl (hb hby at_30) rfl ?_
    show Steps p.tables e below (s₁.setTop (mkF m 32 #[.val (.long q1), .second, .val (.long q2), .second, .val (.long q3), .second, .val (.long q4), .second, .val (.int p5), .val (.int (((q1.toUInt64 >>> ((32 : Int32) &&& 0x3f).toInt64.toUInt64).toInt64).toInt32)), .val (.int (q1.toInt32)), .val (.int (((q2.toUInt64 >>> ((32 : Int32) &&& 0x3f).toInt64.toUInt64).toInt64).toInt32)), .val (.int (q2.toInt32)), .val (.int (((q3.toUInt64 >>> ((32 : Int32) &&& 0x3f).toInt64.toUInt64).toInt64).toInt32)), .unset, .unset, .unset, .unset, .unset, .unset, .unset, .unset, .unset, .unset, .unset, .unset, .unset, .unset, .unset] [(.long q3)])) _
    refine XS.l2i X0.here hx rfl (hb hby at_32) rfl ?_
    show Steps p.tables e below (s₁.setTop (mkF m 33 #[.val (.long q1), .second, .val (.long q2), .second, .val (.long q3), .second, .val (.long q4), .second, .val (.int p5), .val (.int (((q1.toUInt64 >>> ((32 : Int32) &&& 0x3f).toInt64.toUInt64).toInt64).toInt32)), .val (.int (q1.toInt32)), .val (.int (((q2.toUInt64 >>> ((32 : Int32) &&& 0x3f).toInt64.toUInt64).toInt64).toInt32)), .val (.int (q2.toInt32)), .val (.int (((q3.toUInt64 >>> ((32 : Int32) &&& 0x3f).toInt64.toUInt64).toInt64).toInt32)), .unset, .unset, .unset, .unset, .unset, .unset, .unset, .unset, .unset, .unset, .unset, .unset, .unset, .unset, .unset] [(.int (q3.toInt32))])) _
    refine XS.istore X0.here hx rfl (hb hby at_33) rfl (l' := #[.val (.long q1), .second, .val (.long q2), .second, .val (.long q3), .second, .val (.long q4), .second, .val (.int p5), .val (.int (((q1.toUInt64 >>> ((32 : Int32) &&& 0x3f).toInt64.toUInt64).toInt64).toInt32)), .val (.int (q1.toInt32)), .val (.int (((q2.toUInt64 >>> ((32 : Int32) &&& 0x3f).toInt64.toUInt64).toInt64).toInt32)), .val (.int (q2.toInt32)), .val (.int (((q3.toUInt64 >>> ((32 : Int32) &&& 0x3f).toInt64.toUInt64).toInt64).toInt32)), .val (.int (q3.toInt32)), .unset, .unset, .unset, .unset, .unset, .unset, .unset, .unset, .unset, .unset, .unset, .unset, .unset, .unset]) rfl ?_
    show Steps p.tables e below (s₁.setTop (mkF m 35 #[.val (.long q1), .second, .val (.long q2), .second, .val (.long q3), .second, .val (.long q4), .second, .val (.int p5), .val (.int (((q1.toUInt64 >>> ((32 : Int32) &&& 0x3f).toInt64.toUInt64).toInt64).toInt32)), .val (.int (q1.toInt32)), .val (.int (((q2.toUInt64 >>> ((32 : Int32) &&& 0x3f).toInt64.toUInt64).toInt64).toInt32)), .val (.int (q2.toInt32)), .val (.int (((q3.toUInt64 >>> ((32 : Int32) &&& 0x3f).toInt64.toUInt64).toInt64).toInt32)), .val (.int (q3.toInt32)), .unset, .unset, .unset, .unset, .unset, .unset, .unset, .unset, .unset, .unset, .unset, .unset, .unset, .unset] [])) _
    refine XS.lload X0.here hx rfl (hb hby at_35) rfl ?_
    show Steps p.tables e below (s₁.setTop (mkF m 37 #[.val (.long q1), .second, .val (.long q2), .second, .val (.long q3), .second, .val (.long q4), .second, .val (.int p5), .val (.int (((q1.toUInt64 >>> ((32 : Int32) &&& 0x3f).toInt64.toUInt64).toInt64).toInt32)), .val (.int (q1.toInt32)), .val (.int (((q2.toUInt64 >>> ((32 : Int32) &&& 0x3f).toInt64.toUInt64).toInt64).toInt32)), .val (.int (q2.toInt32)), .val (.int (((q3.toUInt64 >>> ((32 : Int32) &&& 0x3f).toInt64.toUInt64).toInt64).toInt32)), .val (.int (q3.toInt32)), .unset, .unset, .unset, .unset, .unset, .unset, .unset, .unset, .unset, .unset, .unset, .unset, .unset, .unset] [(.long q4)])) _
    refine XS.bipush X0.here hx rfl (hb hby at_37) ?_
    show Steps p.tables e below (s₁.setTop (mkF m 39 #[.val (.long q1), .second, .val (.long q2), .second, .val (.long q3), .second, .val (.long q4), .second, .val (.int p5), .val (.int (((q1.toUInt64 >>> ((32 : Int32) &&& 0x3f).toInt64.toUInt64).toInt64).toInt32)), .val (.int (q1.toInt32)), .val (.int (((q2.toUInt64 >>> ((32 : Int32) &&& 0x3f).toInt64.toUInt64).toInt64).toInt32)), .val (.int (q2.toInt32)), .val (.int (((q3.toUInt64 >>> ((32 : Int32) &&& 0x3f).toInt64.toUInt64).toInt64).toInt32)), .val (.int (q3.toInt32)), .unset, .unset, .unset, .unset, .unset, .unset, .unset, .unset, .unset, .unset, .unset, .unset, .unset, .unset] [(.int (32 : Int32)), (.long q4)])) _
    refine XS.lushr X0.here hx rfl (hb hby at_39) rfl ?_
    show Steps p.tables e below (s₁.setTop (mkF m 40 #[.val (.long q1), .second, .val (.long q2), .second, .val (.long q3), .second, .val (.long q4), .second, .val (.int p5), .val (.int (((q1.toUInt64 >>> ((32 : Int32) &&& 0x3f).toInt64.toUInt64).toInt64).toInt32)), .val (.int (q1.toInt32)), .val (.int (((q2.toUInt64 >>> ((32 : Int32) &&& 0x3f).toInt64.toUInt64).toInt64).toInt32)), .val (.int (q2.toInt32)), .val (.int (((q3.toUInt64 >>> ((32 : Int32) &&& 0x3f).toInt64.toUInt64).toInt64).toInt32)), .val (.int (q3.toInt32)), .unset, .unset, .unset, .unset, .unset, .unset, .unset, .unset, .unset, .unset, .unset, .unset, .unset, .unset] [(.long ((q4.toUInt64 >>> ((32 : Int32) &&& 0x3f).toInt64.toUInt64).toInt64))])) _
    refine XS.l2i X0.here hx rfl (hb hby at_40) rfl ?_
    show Steps p.tables e below (s₁.setTop (mkF m 41 #[.val (.long q1), .second, .val (.long q2), .second, .val (.long q3), .second, .val (.long q4), .second, .val (.int p5), .val (.int (((q1.toUInt64 >>> ((32 : Int32) &&& 0x3f).toInt64.toUInt64).toInt64).toInt32)), .val (.int (q1.toInt32)), .val (.int (((q2.toUInt64 >>> ((32 : Int32) &&& 0x3f).toInt64.toUInt64).toInt64).toInt32)), .val (.int (q2.toInt32)), .val (.int (((q3.toUInt64 >>> ((32 : Int32) &&& 0x3f).toInt64.toUInt64).toInt64).toInt32)), .val (.int (q3.toInt32)), .unset, .unset, .unset, .unset, .unset, .unset, .unset, .unset, .unset, .unset, .unset, .unset, .unset, .unset] [(.int (((q4.toUInt64 >>> ((32 : Int32) &&& 0x3f).toInt64.toUInt64).toInt64).toInt32))])) _
    refine XS.istore X0.here hx rfl (hb hby at_41) rfl (l' := #[.val (.long q1), .second, .val (.long q2), .second, .val (.long q3), .second, .val (.long q4), .second, .val (.int p5), .val (.int (((q1.toUInt64 >>> ((32 : Int32) &&& 0x3f).toInt64.toUInt64).toInt64).toInt32)), .val (.int (q1.toInt32)), .val (.int (((q2.toUInt64 >>> ((32 : Int32) &&& 0x3f).toInt64.toUInt64).toInt64).toInt32)), .val (.int (q2.toInt32)), .val (.int (((q3.toUInt64 >>> ((32 : Int32) &&& 0x3f).toInt64.toUInt64).toInt64).toInt32)), .val (.int (q3.toInt32)), .val (.int (((q4.toUInt64 >>> ((32 : Int32) &&& 0x3f).toInt64.toUInt64).toInt64).toInt32)), .unset, .unset, .unset, .unset, .unset, .unset, .unset, .unset, .unset, .unset, .unset, .unset, .unset]) rfl ?_
    show Steps p.tables e below (s₁.setTop (mkF m 43 #[.val (.long q1), .second, .val (.long q2), .second, .val (.long q3), .second, .val (.long q4), .second, .val (.int p5), .val (.int (((q1.toUInt64 >>> ((32 : Int32) &&& 0x3f).toInt64.toUInt64).toInt64).toInt32)), .val (.int (q1.toInt32)), .val (.int (((q2.toUInt64 >>> ((32 : Int32) &&& 0x3f).toInt64.toUInt64).toInt64).toInt32)), .val (.int (q2.toInt32)), .val (.int (((q3.toUInt64 >>> ((32 : Int32) &&& 0x3f).toInt64.toUInt64).toInt64).toInt32)), .val (.int (q3.toInt32)), .val (.int (((q4.toUInt64 >>> ((32 : Int32) &&& 0x3f).toInt64.toUInt64).toInt64).toInt32)), .unset, .unset, .unset, .unset, .unset, .unset, .unset, .unset, .unset, .unset, .unset, .unset, .unset] [])) _
    refine XS.lload X0.here hx rfl (hb hby at_43) rfl ?_
    show Steps p.tables e below (s₁.setTop (mkF m 45 #[.val (.long q1), .second, .val (.long q2), .second, .val (.long q3), .second, .val (.long q4), .second, .val (.int p5), .val (.int (((q1.toUInt64 >>> ((32 : Int32) &&& 0x3f).toInt64.toUInt64).toInt64).toInt32)), .val (.int (q1.toInt32)), .val (.int (((q2.toUInt64 >>> ((32 : Int32) &&& 0x3f).toInt64.toUInt64).toInt64).toInt32)), .val (.int (q2.toInt32)), .val (.int (((q3.toUInt64 >>> ((32 : Int32) &&& 0x3f).toInt64.toUInt64).toInt64).toInt32)), .val (.int (q3.toInt32)), .val (.int (((q4.toUInt64 >>> ((32 : Int32) &&& 0x3f).toInt64.toUInt64).toInt64).toInt32)), .unset, .unset, .unset, .unset, .unset, .unset, .unset, .unset, .unset, .unset, .unset, .unset, .unset] [(.long q4)])) _
    refine XS.l2i X0.here hx rfl (hb hby at_45) rfl ?_
    show Steps p.tables e below (s₁.setTop (mkF m 46 #[.val (.long q1), .second, .val (.long q2), .second, .val (.long q3), .second, .val (.long q4), .second, .val (.int p5), .val (.int (((q1.toUInt64 >>> ((32 : Int32) &&& 0x3f).toInt64.toUInt64).toInt64).toInt32)), .val (.int (q1.toInt32)), .val (.int (((q2.toUInt64 >>> ((32 : Int32) &&& 0x3f).toInt64.toUInt64).toInt64).toInt32)), .val (.int (q2.toInt32)), .val (.int (((q3.toUInt64 >>> ((32 : Int32) &&& 0x3f).toInt64.toUInt64).toInt64).toInt32)), .val (.int (q3.toInt32)), .val (.int (((q4.toUInt64 >>> ((32 : Int32) &&& 0x3f).toInt64.toUInt64).toInt64).toInt32)), .unset, .unset, .unset, .unset, .unset, .unset, .unset, .unset, .unset, .unset, .unset, .unset, .unset] [(.int (q4.toInt32))])) _
    refine XS.istore X0.here hx rfl (hb hby at_46) rfl (l' := #[.val (.long q1), .second, .val (.long q2), .second, .val (.long q3), .second, .val (.long q4), .second, .val (.int p5), .val (.int (((q1.toUInt64 >>> ((32 : Int32) &&& 0x3f).toInt64.toUInt64).toInt64).toInt32)), .val (.int (q1.toInt32)), .val (.int (((q2.toUInt64 >>> ((32 : Int32) &&& 0x3f).toInt64.toUInt64).toInt64).toInt32)), .val (.int (q2.toInt32)), .val (.int (((q3.toUInt64 >>> ((32 : Int32) &&& 0x3f).toInt64.toUInt64).toInt64).toInt32)), .val (.int (q3.toInt32)), .val (.int (((q4.toUInt64 >>> ((32 : Int32) &&& 0x3f).toInt64.toUInt64).toInt64).toInt32)), .val (.int (q4.toInt32)), .unset, .unset, .unset, .unset, .unset, .unset, .unset, .unset, .unset, .unset, .unset, .unset]) rfl ?_
    show Steps p.tables e below (s₁.setTop (mkF m 48 #[.val (.long q1), .second, .val (.long q2), .second, .val (.long q3), .second, .val (.long q4), .second, .val (.int p5), .val (.int (((q1.toUInt64 >>> ((32 : Int32) &&& 0x3f).toInt64.toUInt64).toInt64).toInt32)), .val (.int (q1.toInt32)), .val (.int (((q2.toUInt64 >>> ((32 : Int32) &&& 0x3f).toInt64.toUInt64).toInt64).toInt32)), .val (.int (q2.toInt32)), .val (.int (((q3.toUInt64 >>> ((32 : Int32) &&& 0x3f).toInt64.toUInt64).toInt64).toInt32)), .val (.int (q3.toInt32)), .val (.int (((q4.toUInt64 >>> ((32 : Int32) &&& 0x3f).toInt64.toUInt64).toInt64).toInt32)), .val (.int (q4.toInt32)), .unset, .unset, .unset, .unset, .unset, .unset, .unset, .unset, .unset, .unset, .unset, .unset] [])) _
    refine XS.iload X0.here hx rfl (hb hby at_48) rfl ?_
    show Steps p.tables e below (s₁.setTop (mkF m 50 #[.val (.long q1), .second, .val (.long q2), .second, .val (.long q3), .second, .val (.long q4), .second, .val (.int p5), .val (.int (((q1.toUInt64 >>> ((32 : Int32) &&& 0x3f).toInt64.toUInt64).toInt64).toInt32)), .val (.int (q1.toInt32)), .val (.int (((q2.toUInt64 >>> ((32 : Int32) &&& 0x3f).toInt64.toUInt64).toInt64).toInt32)), .val (.int (q2.toInt32)), .val (.int (((q3.toUInt64 >>> ((32 : Int32) &&& 0x3f).toInt64.toUInt64).toInt64).toInt32)), .val (.int (q3.toInt32)), .val (.int (((q4.toUInt64 >>> ((32 : Int32) &&& 0x3f).toInt64.toUInt64).toInt64).toInt32)), .val (.int (q4.toInt32)), .unset, .unset, .unset, .unset, .unset, .unset, .unset, .unset, .unset, .unset, .unset, .unset] [(.int (((q1.toUInt64 >>> ((32 : Int32) &&& 0x3f).toInt64.toUInt64).toInt64).toInt32))])) _
    refine XS.iload X0.here hx rfl (hb hby at_50) rfl ?_
    exact k_)
  obtain ⟨m1, hv_m1, pre102⟩ : ∃ z_ : Int32, z_ = (((q1.toUInt64 >>> ((32 : Int32) &&& 0x3f).toInt64.toUInt64).toInt64).toInt32) ∧ ∀ t_, Steps p.tables e below (s₁.setTop (mkF m 52 #[.val (.long q1), .second, .val (.long q2), .second, .val (.long q3), .second, .val (.long q4), .second, .val (.int p5), .val (.int z_), .val (.int (q1.toInt32)), .val (.int (((q2.toUInt64 >>> ((32 : Int32) &&& 0x3f).toInt64.toUInt64).toInt64).toInt32)), .val (.int (q2.toInt32)), .val (.int (((q3.toUInt64 >>> ((32 : Int32) &&& 0x3f).toInt64.toUInt64).toInt64).toInt32)), .val (.int (q3.toInt32)), .val (.int (((q4.toUInt64 >>> ((32 : Int32) &&& 0x3f).toInt64.toUInt64).toInt64).toInt32)), .val (.int (q4.toInt32)), .unset, .unset, .unset, .unset, .unset, .unset, .unset, .unset, .unset, .unset, .unset, .unset] [(.int (q1.toInt32)), (.int z_)])) t_ → Steps p.tables e below (s₁.setTop (entryFrame m #[(.long q1), (.long q2), (.long q3), (.long q4), (.int p5)] maxLocals)) t_ := ⟨_, rfl, fun t_ k_ => pre101 _ (by
    exact k_)⟩
  obtain ⟨m2, hv_m2, pre103⟩ : ∃ z_ : Int32, z_ = (q1.toInt32) ∧ ∀ t_, Steps p.tables e below (s₁.setTop (mkF m 52 #[.val (.long q1), .second, .val (.long q2), .second, .val (.long q3), .second, .val (.long q4), .second, .val (.int p5), .val (.int m1), .val (.int z_), .val (.int (((q2.toUInt64 >>> ((32 : Int32) &&& 0x3f).toInt64.toUInt64).toInt64).toInt32)), .val (.int (q2.toInt32)), .val (.int (((q3.toUInt64 >>> ((32 : Int32) &&& 0x3f).toInt64.toUInt64).toInt64).toInt32)), .val (.int (q3.toInt32)), .val (.int (((q4.toUInt64 >>> ((32 : Int32) &&& 0x3f).toInt64.toUInt64).toInt64).toInt32)), .val (.int (q4.toInt32)), .unset, .unset, .unset, .unset, .unset, .unset, .unset, .unset, .unset, .unset, .unset, .unset] [(.int z_), (.int m1)])) t_ → Steps p.tables e below (s₁.setTop (entryFrame m #[(.long q1), (.long q2), (.long q3), (.long q4), (.int p5)] maxLocals)) t_ := ⟨_, rfl, fun t_ k_ => pre102 _ (by
    exact k_)⟩
  obtain ⟨m3, hv_m3, pre104⟩ : ∃ z_ : Int32, z_ = (((q2.toUInt64 >>> ((32 : Int32) &&& 0x3f).toInt64.toUInt64).toInt64).toInt32) ∧ ∀ t_, Steps p.tables e below (s₁.setTop (mkF m 52 #[.val (.long q1), .second, .val (.long q2), .second, .val (.long q3), .second, .val (.long q4), .second, .val (.int p5), .val (.int m1), .val (.int m2), .val (.int z_), .val (.int (q2.toInt32)), .val (.int (((q3.toUInt64 >>> ((32 : Int32) &&& 0x3f).toInt64.toUInt64).toInt64).toInt32)), .val (.int (q3.toInt32)), .val (.int (((q4.toUInt64 >>> ((32 : Int32) &&& 0x3f).toInt64.toUInt64).toInt64).toInt32)), .val (.int (q4.toInt32)), .unset, .unset, .unset, .unset, .unset, .unset, .unset, .unset, .unset, .unset, .unset, .unset] [(.int m2), (.int m1)])) t_ → Steps p.tables e below (s₁.setTop (entryFrame m #[(.long q1), (.long q2), (.long q3), (.long q4), (.int p5)] maxLocals)) t_ := ⟨_, rfl, fun t_ k_ => pre103 _ (by
    exact k_)⟩
  obtain ⟨m4, hv_m4, pre105⟩ : ∃ z_ : Int32, z_ = (q2.toInt32) ∧ ∀ t_, Steps p.tables e below (s₁.setTop (mkF m 52 #[.val (.long q1), .second, .val (.long q2), .second, .val (.long q3), .second, .val (.long q4), .second, .val (.int p5), .val (.int m1), .val (.int m2), .val (.int m3), .val (.int z_), .val (.int (((q3.toUInt64 >>> ((32 : Int32) &&& 0x3f).toInt64.toUInt64).toInt64).toInt32)), .val (.int (q3.toInt32)), .val (.int (((q4.toUInt64 >>> ((32 : Int32) &&& 0x3f).toInt64.toUInt64).toInt64).toInt32)), .val (.int (q4.toInt32)), .unset, .unset, .unset, .unset, .unset, .unset, .unset, .unset, .unset, .unset, .unset, .unset] [(.int m2), (.int m1)])) t_ → Steps p.tables e below (s₁.setTop (entryFrame m #[(.long q1), (.long q2), (.long q3), (.long q4), (.int p5)] maxLocals)) t_ := ⟨_, rfl, fun t_ k_ => pre104 _ (by
    exact k_)⟩
  obtain ⟨m5, hv_m5, pre106⟩ : ∃ z_ : Int32, z_ = (((q3.toUInt64 >>> ((32 : Int32) &&& 0x3f).toInt64.toUInt64).toInt64).toInt32) ∧ ∀ t_, Steps p.tables e below (s₁.setTop (mkF m 52 #[.val (.long q1), .second, .val (.long q2), .second, .val (.long q3), .second, .val (.long q4), .second, .val (.int p5), .val (.int m1), .val (.int m2), .val (.int m3), .val (.int m4), .val (.int z_), .val (.int (q3.toInt32)), .val (.int (((q4.toUInt64 >>> ((32 : Int32) &&& 0x3f).toInt64.toUInt64).toInt64).toInt32)), .val (.int (q4.toInt32)), .unset, .unset, .unset, .unset, .unset, .unset, .unset, .unset, .unset, .unset, .unset, .unset] [(.int m2), (.int m1)])) t_ → Steps p.tables e below (s₁.setTop (entryFrame m #[(.long q1), (.long q2), (.long q3), (.long q4), (.int p5)] maxLocals)) t_ := ⟨_, rfl, fun t_ k_ => pre105 _ (by
    exact k_)⟩
  obtain ⟨m6, hv_m6, pre107⟩ : ∃ z_ : Int32, z_ = (q3.toInt32) ∧ ∀ t_, Steps p.tables e below (s₁.setTop (mkF m 52 #[.val (.long q1), .second, .val (.long q2), .second, .val (.long q3), .second, .val (.long q4), .second, .val (.int p5), .val (.int m1), .val (.int m2), .val (.int m3), .val (.int m4), .val (.int m5), .val (.int z_), .val (.int (((q4.toUInt64 >>> ((32 : Int32) &&& 0x3f).toInt64.toUInt64).toInt64).toInt32)), .val (.int (q4.toInt32)), .unset, .unset, .unset, .unset, .unset, .unset, .unset, .unset, .unset, .unset, .unset, .unset] [(.int m2), (.int m1)])) t_ → Steps p.tables e below (s₁.setTop (entryFrame m #[(.long q1), (.long q2), (.long q3), (.long q4), (.int p5)] maxLocals)) t_ := ⟨_, rfl, fun t_ k_ => pre106 _ (by
    exact k_)⟩
  obtain ⟨m7, hv_m7, pre108⟩ : ∃ z_ : Int32, z_ = (((q4.toUInt64 >>> ((32 : Int32) &&& 0x3f).toInt64.toUInt64).toInt64).toInt32) ∧ ∀ t_, Steps p.tables e below (s₁.setTop (mkF m 52 #[.val (.long q1), .second, .val (.long q2), .second, .val (.long q3), .second, .val (.long q4), .second, .val (.int p5), .val (.int m1), .val (.int m2), .val (.int m3), .val (.int m4), .val (.int m5), .val (.int m6), .val (.int z_), .val (.int (q4.toInt32)), .unset, .unset, .unset, .unset, .unset, .unset, .unset, .unset, .unset, .unset, .unset, .unset] [(.int m2), (.int m1)])) t_ → Steps p.tables e below (s₁.setTop (entryFrame m #[(.long q1), (.long q2), (.long q3), (.long q4), (.int p5)] maxLocals)) t_ := ⟨_, rfl, fun t_ k_ => pre107 _ (by
    exact k_)⟩
  obtain ⟨m8, hv_m8, pre109⟩ : ∃ z_ : Int32, z_ = (q4.toInt32) ∧ ∀ t_, Steps p.tables e below (s₁.setTop (mkF m 52 #[.val (.long q1), .second, .val (.long q2), .second, .val (.long q3), .second, .val (.long q4), .second, .val (.int p5), .val (.int m1), .val (.int m2), .val (.int m3), .val (.int m4), .val (.int m5), .val (.int m6), .val (.int m7), .val (.int z_), .unset, .unset, .unset, .unset, .unset, .unset, .unset, .unset, .unset, .unset, .unset, .unset] [(.int m2), (.int m1)])) t_ → Steps p.tables e below (s₁.setTop (entryFrame m #[(.long q1), (.long q2), (.long q3), (.long q4), (.int p5)] maxLocals)) t_ := ⟨_, rfl, fun t_ k_ => pre108 _ (by
    exact k_)⟩
  obtain ⟨_, _, ⟨T110, L110, k110, n110⟩, -, X110, ⟨Lc110, hQ110, l110, y110, z110⟩, st110⟩ := Jvm.LawKit.callS X0 hx (y := (⟨"java/lang/Math", "min", "(II)I"⟩ : MethodName)) hown (mvT hZ (hw _ (List.mem_of_getElem? (i := 0) rfl))) (mvT hZ (hw _ (List.mem_of_getElem? (i := 1) rfl))) (mvT hZ (hw _ (List.mem_of_getElem? (i := 2) rfl))) (mvT hZ (hw _ (List.mem_of_getElem? (i := 3) rfl))) (by decide) (backOf (W := 0) (rmMin l Z a0 hw [] m1 m2 h0 n0 Z0 ) hZ (hw _ (List.mem_of_getElem? (i := 3) rfl)) (hw _ (List.mem_of_getElem? (i := 2) rfl)) (by decide) (by decide)) (g := (mkF m 52 #[.val (.long q1), .second, .val (.long q2), .second, .val (.long q3), .second, .val (.long q4), .second, .val (.int p5), .val (.int m1), .val (.int m2), .val (.int m3), .val (.int m4), .val (.int m5), .val (.int m6), .val (.int m7), .val (.int m8), .unset, .unset, .unset, .unset, .unset, .unset, .unset, .unset, .unset, .unset, .unset, .unset] [(.int m2), (.int m1)])) rfl (by rw [hml]; rfl) (argsL := [(.int m1), (.int m2)]) (rest := []) (lenOf pd_1 rfl) rfl (by show 2 * 0 + _ ≤ _; exact Nat.le_of_eq rfl) (hb hby at_52) (fun _ _ => ⟨rfl, e0, (by decide : 0 + 0 ≤ _), (by decide : 0 + 0 ≤ _)⟩)
  dsimp only [Pt.U, Pt.locs, Pt.cells, Pt.slots] at X110 l110 y110 z110 st110 hQ110
  subst l110 y110 z110
  obtain ⟨rfl, N110q, e110⟩ := hQ110
  have N110 := Fr.app N0 N110q
  obtain ⟨ax0, hv_ax0, pre111⟩ : ∃ z_ : Int32, z_ = (own_min m1 m2) ∧ ∀ t_, Steps p.tables e below (T110.setTop (mkF m 55 #[.val (.long q1), .second, .val (.long q2), .second, .val (.long q3), .second, .val (.long q4), .second, .val (.int p5), .val (.int m1), .val (.int m2), .val (.int m3), .val (.int m4), .val (.int m5), .val (.int m6), .val (.int m7), .val (.int m8), .unset, .unset, .unset, .unset, .unset, .unset, .unset, .unset, .unset, .unset, .unset, .unset] [(.int z_)])) t_ → Steps p.tables e below (s₁.setTop (entryFrame m #[(.long q1), (.long q2), (.long q3), (.long q4), (.int p5)] maxLocals)) t_ := ⟨_, rfl, fun t_ k_ => pre109 _ (by
    show Steps p.tables e below (s₁.setTop (mkF m 52 #[.val (.long q1), .second, .val (.long q2), .second, .val (.long q3), .second, .val (.long q4), .second, .val (.int p5), .val (.int m1), .val (.int m2), .val (.int m3), .val (.int m4), .val (.int m5), .val (.int m6), .val (.int m7), .val (.int m8), .unset, .unset, .unset, .unset, .unset, .unset, .unset, .unset, .unset, .unset, .unset, .unset] [(.int m2), (.int m1)])) _
    refine st110 _ ?_
    exact k_)⟩
  obtain ⟨_, _, ⟨T112, L112, k112, n112⟩, -, X112, ⟨Lc112, hQ112, l112, y112, z112⟩, st112⟩ := Jvm.LawKit.callS X110 hx (y := (⟨"java/lang/Math", "max", "(II)I"⟩ : MethodName)) hown (mvT hZ (hw _ (List.mem_of_getElem? (i := 4) rfl))) (mvT hZ (hw _ (List.mem_of_getElem? (i := 5) rfl))) (mvT hZ (hw _ (List.mem_of_getElem? (i := 2) rfl))) (mvT hZ (hw _ (List.mem_of_getElem? (i := 6) rfl))) (by decide) (backOf (W := 0) (rmMax l Z a0 hw [] m1 m2 h0 n0 Z0 ) hZ (hw _ (List.mem_of_getElem? (i := 6) rfl)) (hw _ (List.mem_of_getElem? (i := 2) rfl)) (by decide) (by decide)) (g := (mkF m 61 #[.val (.long q1), .second, .val (.long q2), .second, .val (.long q3), .second, .val (.long q4), .second, .val (.int p5), .val (.int m1), .val (.int m2), .val (.int m3), .val (.int m4), .val (.int m5), .val (.int m6), .val (.int m7), .val (.int m8), .val (.int ax0), .unset, .unset, .unset, .unset, .unset, .unset, .unset, .unset, .unset, .unset, .unset] [(.int m2), (.int m1)])) rfl (by rw [hml]; rfl) (argsL := [(.int m1), (.int m2)]) (rest := []) (lenOf pd_1 rfl) rfl (by show 2 * 0 + _ ≤ _; exact Nat.le_of_eq rfl) (hb hby at_61) (fun _ _ => ⟨rfl, e110, (by decide : 0 + 0 ≤ _), (by decide : 0 + 0 ≤ _)⟩)
  dsimp only [Pt.U, Pt.locs, Pt.cells, Pt.slots] at X112 l112 y112 z112 st112 hQ112
  subst l112 y112 z112
  obtain ⟨rfl, N112q, e112⟩ := hQ112
  have N112 := Fr.app N110 N112q
  obtain ⟨ax1, hv_ax1, pre113⟩ : ∃ z_ : Int32, z_ = (own_max m1 m2) ∧ ∀ t_, Steps p.tables e below (T112.setTop (mkF m 64 #[.val (.long q1), .second, .val (.long q2), .second, .val (.long q3), .second, .val (.long q4), .second, .val (.int p5), .val (.int m1), .val (.int m2), .val (.int m3), .val (.int m4), .val (.int m5), .val (.int m6), .val (.int m7), .val (.int m8), .val (.int ax0), .unset, .unset, .unset, .unset, .unset, .unset, .unset, .unset, .unset, .unset, .unset] [(.int z_)])) t_ → Steps p.tables e below (s₁.setTop (entryFrame m #[(.long q1), (.long q2), (.long q3), (.long q4), (.int p5)] maxLocals)) t_ := ⟨_, rfl, fun t_ k_ => pre111 _ (by
    show Steps p.tables e below (T110.setTop (mkF m 55 #[.val (.long q1), .second, .val (.long q2), .second, .val (.long q3), .second, .val (.long q4), .second, .val (.int p5), .val (.int m1), .val (.int m2), .val (.int m3), .val (.int m4), .val (.int m5), .val (.int m6), .val (.int m7), .val (.int m8), .unset, .unset, .unset, .unset, .unset, .unset, .unset, .unset, .unset, .unset, .unset, .unset] [(.int ax0)])) _
    refine XS.istore X110.here hx rfl (hb hby at_55) rfl (l' := #[.val (.long q1), .second, .val (.long q2), .second, .val (.long q3), .second, .val (.long q4), .second, .val (.int p5), .val (.int m1), .val (.int m2), .val (.int m3), .val (.int m4), .val (.int m5), .val (.int m6), .val (.int m7), .val (.int m8), .val (.int ax0), .unset, .unset, .unset, .unset, .unset, .unset, .unset, .unset, .unset, .unset, .unset]) rfl ?_
    show Steps p.tables e below (T110.setTop (mkF m 57 #[.val (.long q1), .second, .val (.long q2), .second, .val (.long q3), .second, .val (.long q4), .second, .val (.int p5), .val (.int m1), .val (.int m2), .val (.int m3), .val (.int m4), .val (.int m5), .val (.int m6), .val (.int m7), .val (.int m8), .val (.int ax0), .unset, .unset, .unset, .unset, .unset, .unset, .unset, .unset, .unset, .unset, .unset] [])) _
    refine XS.iload X110.here hx rfl (hb hby at_57) rfl ?_
    show Steps p.tables e below (T110.setTop (mkF m 59 #[.val (.long q1), .second, .val (.long q2), .second, .val (.long q3), .second, .val (.long q4), .second, .val (.int p5), .val (.int m1), .val (.int m2), .val (.int m3), .val (.int m4), .val (.int m5), .val (.int m6), .val (.int m7), .val (.int m8), .val (.int ax0), .unset, .unset, .unset, .unset, .unset, .unset, .unset, .unset, .unset, .unset, .unset] [(.int m1)])) _
    refine XS.iload X110.here hx rfl (hb hby at_59) rfl ?_
    show Steps p.tables e below (T110.setTop (mkF m 61 #[.val (.long q1), .second, .val (.long q2), .second, .val (.long q3), .second, .val (.long q4), .second, .val (.int p5), .val (.int m1), .val (.int m2), .val (.int m3), .val (.int m4), .val (.int m5), .val (.int m6), .val (.int m7), .val (.int m8), .val (.int ax0), .unset, .unset, .unset, .unset, .unset, .unset, .unset, .unset, .unset, .unset, .unset] [(.int m2), (.int m1)])) _
    refine st112 _ ?_
    exact k_)⟩
  obtain ⟨_, _, ⟨T114, L114, k114, n114⟩, -, X114, ⟨Lc114, hQ114, l114, y114, z114⟩, st114⟩ := Jvm.LawKit.callS X112 hx (y := (⟨"java/lang/Math", "min", "(II)I"⟩ : MethodName)) hown (mvT hZ (hw _ (List.mem_of_getElem? (i := 0) rfl))) (mvT hZ (hw _ (List.mem_of_getElem? (i := 1) rfl))) (mvT hZ (hw _ (List.mem_of_getElem? (i := 2) rfl))) (mvT hZ (hw _ (List.mem_of_getElem? (i := 3) rfl))) (by decide) (backOf (W := 0) (rmMin l Z a0 hw [] m3 m4 h0 n0 Z0 ) hZ (hw _ (List.mem_of_getElem? (i := 3) rfl)) (hw _ (List.mem_of_getElem? (i := 2) rfl)) (by decide) (by decide)) (g := (mkF m 70 #[.val (.long q1), .second, .val (.long q2), .second, .val (.long q3), .second, .val (.long q4), .second, .val (.int p5), .val (.int m1), .val (.int m2), .val (.int m3), .val (.int m4), .val (.int m5), .val (.int m6), .val (.int m7), .val (.int m8), .val (.int ax0), .val (.int ax1), .unset, .unset, .unset, .unset, .unset, .unset, .unset, .unset, .unset, .unset] [(.int m4), (.int m3)])) rfl (by rw [hml]; rfl) (argsL := [(.int m3), (.int m4)]) (rest := []) (lenOf pd_1 rfl) rfl (by show 2 * 0 + _ ≤ _; exact Nat.le_of_eq rfl) (hb hby at_70) (fun _ _ => ⟨rfl, e112, (by decide : 0 + 0 ≤ _), (by decide : 0 + 0 ≤ _)⟩)
  dsimp only [Pt.U, Pt.locs, Pt.cells, Pt.slots] at X114 l114 y114 z114 st114 hQ114
  subst l114 y114 z114
  obtain ⟨rfl, N114q, e114⟩ := hQ114
  have N114 := Fr.app N112 N114q
  obtain ⟨ay0, hv_ay0, pre115⟩ : ∃ z_ : Int32, z_ = (own_min m3 m4) ∧ ∀ t_, Steps p.tables e below (T114.setTop (mkF m 73 #[.val (.long q1), .second, .val (.long q2), .second, .val (.long q3), .second, .val (.long q4), .second, .val (.int p5), .val (.int m1), .val (.int m2), .val (.int m3), .val (.int m4), .val (.int m5), .val (.int m6), .val (.int m7), .val (.int m8), .val (.int ax0), .val (.int ax1), .unset, .unset, .unset, .unset, .unset, .unset, .unset, .unset, .unset, .unset] [(.int z_)])) t_ → Steps p.tables e below (s₁.setTop (entryFrame m #[(.long q1), (.long q2), (.long q3), (.long q4), (.int p5)] maxLocals)) t_ := ⟨_, rfl, fun t_ k_ => pre113 _ (by
    show Steps p.tables e below (T112.setTop (mkF m 64 #[.val (.long q1), .second, .val (.long q2), .second, .val (.long q3), .second, .val (.long q4), .second, .val (.int p5), .val (.int m1), .val (.int m2), .val (.int m3), .val (.int m4), .val (.int m5), .val (.int m6), .val (.int m7), .val (.int m8), .val (.int ax0), .unset, .unset, .unset, .unset, .unset, .unset, .unset, .unset, .unset, .unset, .unset] [(.int ax1)])) _
    refine XS.istore X112.here hx rfl (hb hby at_64) rfl (l' := #[.val (.long q1), .second, .val (.long q2), .second, .val (.long q3), .second, .val (.long q4), .second, .val (.int p5), .val (.int m1), .val (.int m2), .val (.int m3), .val (.int m4), .val (.int m5), .val (.int m6), .val (.int m7), .val (.int m8), .val (.int ax0), .val (.int ax1), .unset, .unset, .unset, .unset, .unset, .unset, .unset, .unset, .unset, .unset]) rfl ?_
    show Steps p.tables e below (T112.setTop (mkF m 66 #[.val (.long q1), .second, .val (.long q2), .second, .val (.long q3), .second, .val (.long q4), .second, .val (.int p5), .val (.int m1), .val (.int m2), .val (.int m3), .val (.int m4), .val (.int m5), .val (.int m6), .val (.int m7), .val (.int m8), .val (.int ax0), .val (.int ax1), .unset, .unset, .unset, .unset, .unset, .unset, .unset, .unset, .unset, .unset] [])) _
    refine XS.iload X112.here hx rfl (hb hby at_66) rfl ?_
    show Steps p.tables e below (T112.setTop (mkF m 68 #[.val (.long q1), .second, .val (.long q2), .second, .val (.long q3), .second, .val (.long q4), .second, .val (.int p5), .val (.int m1), .val (.int m2), .val (.int m3), .val (.int m4), .val (.int m5), .val (.int m6), .val (.int m7), .val (.int m8), .val (.int ax0), .val (.int ax1), .unset, .unset, .unset, .unset, .unset, .unset, .unset, .unset, .unset, .unset] [(.int m3)])) _
    refine XS.iload X112.here hx rfl (hb hby at_68) rfl ?_
    show Steps p.tables e below (T112.setTop (mkF m 70 #[.val (.long q1), .second, .val (.long q2), .second, .val (.long q3), .second, .val (.long q4), .second, .val (.int p5), .val (.int m1), .val (.int m2), .val (.int m3), .val (.int m4), .val (.int m5), .val (.int m6), .val (.int m7), .val (.int m8), .val (.int ax0), .val (.int ax1), .unset, .unset, .unset, .unset, .unset, .unset, .unset, .unset, .unset, .unset] [(.int m4), (.int m3)])) _
    refine st114 _ ?_
    exact k_)⟩
  obtain ⟨_, _, ⟨T116, L116, k116, n116⟩, -, X116, ⟨Lc116, hQ116, l116, y116, z116⟩, st116⟩ := Jvm.LawKit.callS X114 hx (y := (⟨"java/lang/Math", "max", "(II)I"⟩ : MethodName)) hown (mvT hZ (hw _ (List.mem_of_getElem? (i := 4) rfl))) (mvT hZ (hw _ (List.mem_of_getElem? (i := 5) rfl))) (mvT hZ (hw _ (List.mem_of_getElem? (i := 2) rfl))) (mvT hZ (hw _ (List.mem_of_getElem? (i := 6) rfl))) (by decide) (backOf (W := 0) (rmMax l Z a0 hw [] m3 m4 h0 n0 Z0 ) hZ (hw _ (List.mem_of_getElem? (i := 6) rfl)) (hw _ (List.mem_of_getElem? (i := 2) rfl)) (by decide) (by decide)) (g := (mkF m 79 #[.val (.long q1), .second, .val (.long q2), .second, .val (.long q3), .second, .val (.long q4), .second, .val (.int p5), .val (.int m1), .val (.int m2), .val (.int m3), .val (.int m4), .val (.int m5), .val (.int m6), .val (.int m7), .val (.int m8), .val (.int ax0), .val (.int ax1), .val (.int ay0), .unset, .unset, .unset, .unset, .unset, .unset, .unset, .unset, .unset] [(.int m4), (.int m3)])) rfl (by rw [hml]; rfl) (argsL := [(.int m3), (.int m4)]) (rest := []) (lenOf pd_1 rfl) rfl (by show 2 * 0 + _ ≤ _; exact Nat.le_of_eq rfl) (hb hby at_79) (fun _ _ => ⟨rfl, e114, (by decide : 0 + 0 ≤ _), (by decide : 0 + 0 ≤ _)⟩)
  dsimp only [Pt.U, Pt.locs, Pt.cells, Pt.slots] at X116 l116 y116 z116 st116 hQ116
  subst l116 y116 z116
  obtain ⟨rfl, N116q, e116⟩ := hQ116
  have N116 := Fr.app N114 N116q
  obtain ⟨ay1, hv_ay1, pre117⟩ : ∃ z_ : Int32, z_ = (own_max m3 m4) ∧ ∀ t_, Steps p.tables e below (T116.setTop (mkF m 82 #[.val (.long q1), .second, .val (.long q2), .second, .val (.long q3), .second, .val (.long q4), .second, .val (.int p5), .val (.int m1), .val (.int m2), .val (.int m3), .val (.int m4), .val (.int m5), .val (.int m6), .val (.int m7), .val (.int m8), .val (.int ax0), .val (.int ax1), .val (.int ay0), .unset, .unset, .unset, .unset, .unset, .unset, .unset, .unset, .unset] [(.int z_)])) t_ → Steps p.tables e below (s₁.setTop (entryFrame m #[(.long q1), (.long q2), (.long q3), (.long q4), (.int p5)] maxLocals)) t_ := ⟨_, rfl, fun t_ k_ => pre115 _ (by
    show Steps p.tables e below (T114.setTop (mkF m 73 #[.val (.long q1), .second, .val (.long q2), .second, .val (.long q3), .second, .val (.long q4), .second, .val (.int p5), .val (.int m1), .val (.int m2), .val (.int m3), .val (.int m4), .val (.int m5), .val (.int m6), .val (.int m7), .val (.int m8), .val (.int ax0), .val (.int ax1), .unset, .unset, .unset, .unset, .unset, .unset, .unset, .unset, .unset, .unset] [(.int ay0)])) _
    refine XS.istore X114.here hx rfl (hb hby at_73) rfl (l' := #[.val (.long q1), .second, .val (.long q2), .second, .val (.long q3), .second, .val (.long q4), .second, .val (.int p5), .val (.int m1), .val (.int m2), .val (.int m3), .val (.int m4), .val (.int m5), .val (.int m6), .val (.int m7), .val (.int m8), .val (.int ax0), .val (.int ax1), .val (.int ay0), .unset, .unset, .unset, .unset, .unset, .unset, .unset, .unset, .unset]) rfl ?_
    show Steps p.tables e below (T114.setTop (mkF m 75 #[.val (.long q1), .second, .val (.long q2), .second, .val (.long q3), .second, .val (.long q4), .second, .val (.int p5), .val (.int m1), .val (.int m2), .val (.int m3), .val (.int m4), .val (.int m5), .val (.int m6), .val (.int m7), .val (.int m8), .val (.int ax0), .val (.int ax1), .val (.int ay0), .unset, .unset, .unset, .unset, .unset, .unset, .unset, .unset, .unset] [])) _
    refine XS.iload X114.here hx rfl (hb hby at_75) rfl ?_
    show Steps p.tables e below (T114.setTop (mkF m 77 #[.val (.long q1), .second, .val (.long q2), .second, .val (.long q3), .second, .val (.long q4), .second, .val (.int p5), .val (.int m1), .val (.int m2), .val (.int m3), .val (.int m4), .val (.int m5), .val (.int m6), .val (.int m7), .val (.int m8), .val (.int ax0), .val (.int ax1), .val (.int ay0), .unset, .unset, .unset, .unset, .unset, .unset, .unset, .unset, .unset] [(.int m3)])) _
    refine XS.iload X114.here hx rfl (hb hby at_77) rfl ?_
    show Steps p.tables e below (T114.setTop (mkF m 79 #[.val (.long q1), .second, .val (.long q2), .second, .val (.long q3), .second, .val (.long q4), .second, .val (.int p5), .val (.int m1), .val (.int m2), .val (.int m3), .val (.int m4), .val (.int m5), .val (.int m6), .val (.int m7), .val (.int m8), .val (.int ax0), .val (.int ax1), .val (.int ay0), .unset, .unset, .unset, .unset, .unset, .unset, .unset, .unset, .unset] [(.int m4), (.int m3)])) _
    refine st116 _ ?_
    exact k_)⟩
  obtain ⟨_, _, ⟨T118, L118, k118, n118⟩, -, X118, ⟨Lc118, hQ118, l118, y118, z118⟩, st118⟩ := Jvm.LawKit.callS X116 hx (y := (⟨"java/lang/Math", "min", "(II)I"⟩ : MethodName)) hown (mvT hZ (hw _ (List.mem_of_getElem? (i := 0) rfl))) (mvT hZ (hw _ (List.mem_of_getElem? (i := 1) rfl))) (mvT hZ (hw _ (List.mem_of_getElem? (i := 2) rfl))) (mvT hZ (hw _ (List.mem_of_getElem? (i := 3) rfl))) (by decide) (backOf (W := 0) (rmMin l Z a0 hw [] m5 m6 h0 n0 Z0 ) hZ (hw _ (List.mem_of_getElem? (i := 3) rfl)) (hw _ (List.mem_of_getElem? (i := 2) rfl)) (by decide) (by decide)) (g := (mkF m 88 #[.val (.long q1), .second, .val (.long q2), .second, .val (.long q3), .second, .val (.long q4), .second, .val (.int p5), .val (.int m1), .val (.int m2), .val (.int m3), .val (.int m4), .val (.int m5), .val (.int m6), .val (.int m7), .val (.int m8), .val (.int ax0), .val (.int ax1), .val (.int ay0), .val (.int ay1), .unset, .unset, .unset, .unset, .unset, .unset, .unset, .unset] [(.int m6), (.int m5)])) rfl (by rw [hml]; rfl) (argsL := [(.int m5), (.int m6)]) (rest := []) (lenOf pd_1 rfl) rfl (by show 2 * 0 + _ ≤ _; exact Nat.le_of_eq rfl) (hb hby at_88) (fun _ _ => ⟨rfl, e116, (by decide : 0 + 0 ≤ _), (by decide : 0 + 0 ≤ _)⟩)
  dsimp only [Pt.U, Pt.locs, Pt.cells, Pt.slots] at X118 l118 y118 z118 st118 hQ118
  subst l118 y118 z118
  obtain ⟨rfl, N118q, e118⟩ := hQ118
  have N118 := Fr.app N116 N118q
  obtain ⟨bx0, hv_bx0, pre119⟩ : ∃ z_ : Int32, z_ = (own_min m5 m6) ∧ ∀ t_, Steps p.tables e below (T118.setTop (mkF m 91 #[.val (.long q1), .second, .val (.long q2), .second, .val (.long q3), .second, .val (.long q4), .second, .val (.int p5), .val (.int m1), .val (.int m2), .val (.int m3), .val (.int m4), .val (.int m5), .val (.int m6), .val (.int m7), .val (.int m8), .val (.int ax0), .val (.int ax1), .val (.int ay0), .val (.int ay1), .unset, .unset, .unset, .unset, .unset, .unset, .unset, .unset] [(.int z_)])) t_ → Steps p.tables e below (s₁.setTop (entryFrame m #[(.long q1), (.long q2), (.long q3), (.long q4), (.int p5)] maxLocals)) t_ := ⟨_, rfl, fun t_ k_ => pre117 _ (by
    show Steps p.tables e below (T116.setTop (mkF m 82 #[.val (.long q1), .second, .val (.long q2), .second, .val (.long q3), .second, .val (.long q4), .second, .val (.int p5), .val (.int m1), .val (.int m2), .val (.int m3), .val (.int m4), .val (.int m5), .val (.int m6), .val (.int m7), .val (.int m8), .val (.int ax0), .val (.int ax1), .val (.int ay0), .unset, .unset, .unset, .unset, .unset, .unset, .unset, .unset, .unset] [(.int ay1)])) _
    refine XS.istore X116.here hx rfl (hb hby at_82) rfl (l' := #[.val (.long q1), .second, .val (.long q2), .second, .val (.long q3), .second, .val (.long q4), .second, .val (.int p5), .val (.int m1), .val (.int m2), .val (.int m3), .val (.int m4), .val (.int m5), .val (.int m6), .val (.int m7), .val (.int m8), .val (.int ax0), .val (.int ax1), .val (.int ay0), .val (.int ay1), .unset, .unset, .unset, .unset, .unset, .unset, .unset, .unset]) rfl ?_
    show Steps p.tables e below (T116.setTop (mkF m 84 #[.val (.long q1), .second, .val (.long q2), .second, .val (.long q3), .second, .val (.long q4), .second, .val (.int p5), .val (.int m1), .val (.int m2), .val (.int m3), .val (.int m4), .val (.int m5), .val (.int m6), .val (.int m7), .val (.int m8), .val (.int ax0), .val (.int ax1), .val (.int ay0), .val (.int ay1), .unset, .unset, .unset, .unset, .unset, .unset, .unset, .unset] [])) _
    refine XS.iload X116.here hx rfl (hb hby at_84) rfl ?_
    show Steps p.tables e below (T116.setTop (mkF m 86 #[.val (.long q1), .second, .val (.long q2), .second, .val (.long q3), .second, .val (.long q4), .second, .val (.int p5), .val (.int m1), .val (.int m2), .val (.int m3), .val (.int m4), .val (.int m5), .val (.int m6), .val (.int m7), .val (.int m8), .val (.int ax0), .val (.int ax1), .val (.int ay0), .val (.int ay1), .unset, .unset, .unset, .unset, .unset, .unset, .unset, .unset] [(.int m5)])) _
    refine XS.iload X116.here hx rfl (hb hby at_86) rfl ?_
    show Steps p.tables e below (T116.setTop (mkF m 88 #[.val (.long q1), .second, .val (.long q2), .second, .val (.long q3), .second, .val (.long q4), .second, .val (.int p5), .val (.int m1), .val (.int m2), .val (.int m3), .val (.int m4), .val (.int m5), .val (.int m6), .val (.int m7), .val (.int m8), .val (.int ax0), .val (.int ax1), .val (.int ay0), .val (.int ay1), .unset, .unset, .unset, .unset, .unset, .unset, .unset, .unset] [(.int m6), (.int m5)])) _
    refine st118 _ ?_
    exact k_)⟩
  obtain ⟨_, _, ⟨T120, L120, k120, n120⟩, -, X120, ⟨Lc120, hQ120, l120, y120, z120⟩, st120⟩ := Jvm.LawKit.callS X118 hx (y := (⟨"java/lang/Math", "max", "(II)I"⟩ : MethodName)) hown (mvT hZ (hw _ (List.mem_of_getElem? (i := 4) rfl))) (mvT hZ (hw _ (List.mem_of_getElem? (i := 5) rfl))) (mvT hZ (hw _ (List.mem_of_getElem? (i := 2) rfl))) (mvT hZ (hw _ (List.mem_of_getElem? (i := 6) rfl))) (by decide) (backOf (W := 0) (rmMax l Z a0 hw [] m5 m6 h0 n0 Z0 ) hZ (hw _ (List.mem_of_getElem? (i := 6) rfl)) (hw _ (List.mem_of_getElem? (i := 2) rfl)) (by decide) (by decide)) (g := (mkF m 97 #[.val (.long q1), .second, .val (.long q2), .second, .val (.long q3), .second, .val (.long q4), .second, .val (.int p5), .val (.int m1), .val (.int m2), .val (.int m3), .val (.int m4), .val (.int m5), .val (.int m6), .val (.int m7), .val (.int m8), .val (.int ax0), .val (.int ax1), .val (.int ay0), .val (.int ay1), .val (.int bx0), .unset, .unset, .unset, .unset, .unset, .unset, .unset] [(.int m6), (.int m5)])) rfl (by rw [hml]; rfl) (argsL := [(.int m5), (.int m6)]) (rest := []) (lenOf pd_1 rfl) rfl (by show 2 * 0 + _ ≤ _; exact Nat.le_of_eq rfl) (hb hby at_97) (fun _ _ => ⟨rfl, e118, (by decide : 0 + 0 ≤ _), (by decide : 0 + 0 ≤ _)⟩)
  dsimp only [Pt.U, Pt.locs, Pt.cells, Pt.slots] at X120 l120 y120 z120 st120 hQ120
  subst l120 y120 z120
  obtain ⟨rfl, N120q, e120⟩ := hQ120
  have N120 := Fr.app N118 N120q
  obtain ⟨bx1, hv_bx1, pre121⟩ : ∃ z_ : Int32, z_ = (own_max m5 m6) ∧ ∀ t_, Steps p.tables e below (T120.setTop (mkF m 100 #[.val (.long q1), .second, .val (.long q2), .second, .val (.long q3), .second, .val (.long q4), .second, .val (.int p5), .val (.int m1), .val (.int m2), .val (.int m3), .val (.int m4), .val (.int m5), .val (.int m6), .val (.int m7), .val (.int m8), .val (.int ax0), .val (.int ax1), .val (.int ay0), .val (.int ay1), .val (.int bx0), .unset, .unset, .unset, .unset, .unset, .unset, .unset] [(.int z_)])) t_ → Steps p.tables e below (s₁.setTop (entryFrame m #[(.long q1), (.long q2), (.long q3), (.long q4), (.int p5)] maxLocals)) t_ := ⟨_, rfl, fun t_ k_ => pre119 _ (by
    show Steps p.tables e below (T118.setTop (mkF m 91 #[.val (.long q1), .second, .val (.long q2), .second, .val (.long q3), .second, .val (.long q4), .second, .val (.int p5), .val (.int m1), .val (.int m2), .val (.int m3), .val (.int m4), .val (.int m5), .val (.int m6), .val (.int m7), .val (.int m8), .val (.int ax0), .val (.int ax1), .val (.int ay0), .val (.int ay1), .unset, .unset, .unset, .unset, .unset, .unset, .unset, .unset] [(.int bx0)])) _
    refine XS.istore X118.here hx rfl (hb hby at_91) rfl (l' := #[.val (.long q1), .second, .val (.long q2), .second, .val (.long q3), .second, .val (.long q4), .second, .val (.int p5), .val (.int m1), .val (.int m2), .val (.int m3), .val (.int m4), .val (.int m5), .val (.int m6), .val (.int m7), .val (.int m8), .val (.int ax0), .val (.int ax1), .val (.int ay0), .val (.int ay1), .val (.int bx0), .unset, .unset, .unset, .unset, .unset, .unset, .unset]) rfl ?_
    show Steps p.tables e below (T118.setTop (mkF m 93 #[.val (.long q1), .second, .val (.long q2), .second, .val (.long q3), .second, .val (.long q4), .second, .val (.int p5), .val (.int m1), .val (.int m2), .val (.int m3), .val (.int m4), .val (.int m5), .val (.int m6), .val (.int m7), .val (.int m8), .val (.int ax0), .val (.int ax1), .val (.int ay0), .val (.int ay1), .val (.int bx0), .unset, .unset, .unset, .unset, .unset, .unset, .unset] [])) _
    refine XS.iload X118.here hx rfl (hb hby at_93) rfl ?_
    show Steps p.tables e below (T118.setTop (mkF m 95 #[.val (.long q1), .second, .val (.long q2), .second, .val (.long q3), .second, .val (.long q4), .second, .val (.int p5), .val (.int m1), .val (.int m2), .val (.int m3), .val (.int m4), .val (.int m5), .val (.int m6), .val (.int m7), .val (.int m8), .val (.int ax0), .val (.int ax1), .val (.int ay0), .val (.int ay1), .val (.int bx0), .unset, .unset, .unset, .unset, .unset, .unset, .unset] [(.int m5)])) _
    refine XS.iload X118.here hx rfl (hb hby at_95) rfl ?_
    show Steps p.tables e below (T118.setTop (mkF m 97 #[.val (.long q1), .second, .val (.long q2), .second, .val (.long q3), .second, .val (.long q4), .second, .val (.int p5), .val (.int m1), .val (.int m2), .val (.int m3), .val (.int m4), .val (.int m5), .val (.int m6), .val (.int m7), .val (.int m8), .val (.int ax0), .val (.int ax1), .val (.int ay0), .val (.int ay1), .val (.int bx0), .unset, .unset, .unset, .unset, .unset, .unset, .unset] [(.int m6), (.int m5)])) _
    refine st120 _ ?_
    exact k_)⟩
  obtain ⟨_, _, ⟨T122, L122, k122, n122⟩, -, X122, ⟨Lc122, hQ122, l122, y122, z122⟩, st122⟩ := Jvm.LawKit.callS X120 hx (y := (⟨"java/lang/Math", "min", "(II)I"⟩ : MethodName)) hown (mvT hZ (hw _ (List.mem_of_getElem? (i := 0) rfl))) (mvT hZ (hw _ (List.mem_of_getElem? (i := 1) rfl))) (mvT hZ (hw _ (List.mem_of_getElem? (i := 2) rfl))) (mvT hZ (hw _ (List.mem_of_getElem? (i := 3) rfl))) (by decide) (backOf (W := 0) (rmMin l Z a0 hw [] m7 m8 h0 n0 Z0 ) hZ (hw _ (List.mem_of_getElem? (i := 3) rfl)) (hw _ (List.mem_of_getElem? (i := 2) rfl)) (by decide) (by decide)) (g := (mkF m 106 #[.val (.long q1), .second, .val (.long q2), .second, .val (.long q3), .second, .val (.long q4), .second, .val (.int p5), .val (.int m1), .val (.int m2), .val (.int m3), .val (.int m4), .val (.int m5), .val (.int m6), .val (.int m7), .val (.int m8), .val (.int ax0), .val (.int ax1), .val (.int ay0), .val (.int ay1), .val (.int bx0), .val (.int bx1), .unset, .unset, .unset, .unset, .unset, .unset] [(.int m8), (.int m7)])) rfl (by rw [hml]; rfl) (argsL := [(.int m7), (.int m8)]) (rest := []) (lenOf pd_1 rfl) rfl (by show 2 * 0 + _ ≤ _; exact Nat.le_of_eq rfl) (hb hby at_106) (fun _ _ => ⟨rfl, e120, (by decide : 0 + 0 ≤ _), (by decide : 0 + 0 ≤ _)⟩)
  dsimp only [Pt.U, Pt.locs, Pt.cells, Pt.slots] at X122 l122 y122 z122 st122 hQ122
  subst l122 y122 z122
  obtain ⟨rfl, N122q, e122⟩ := hQ122
  have N122 := Fr.app N120 N122q
  obtain ⟨by0, hv_by0, pre123⟩ : ∃ z_ : Int32, z_ = (own_min m7 m8) ∧ ∀ t_, Steps p.tables e below (T122.setTop (mkF m 109 #[.val (.long q1), .second, .val (.long q2), .second, .val (.long q3), .second, .val (.long q4), .second, .val (.int p5), .val (.int m1), .val (.int m2), .val (.int m3), .val (.int m4), .val (.int m5), .val (.int m6), .val (.int m7), .val (.int m8), .val (.int ax0), .val (.int ax1), .val (.int ay0), .val (.int ay1), .val (.int bx0), .val (.int bx1), .unset, .unset, .unset, .unset, .unset, .unset] [(.int z_)])) t_ → Steps p.tables e below (s₁.setTop (entryFrame m #[(.long q1), (.long q2), (.long q3), (.long q4), (.int p5)] maxLocals)) t_ := ⟨_, rfl, fun t_ k_ => pre121 _ (by
    show Steps p.tables e below (T120.setTop (mkF m 100 #[.val (.long q1), .second, .val (.long q2), .second, .val (.long q3), .second, .val (.long q4), .second, .val (.int p5), .val (.int m1), .val (.int m2), .val (.int m3), .val (.int m4), .val (.int m5), .val (.int m6), .val (.int m7), .val (.int m8), .val (.int ax0), .val (.int ax1), .val (.int ay0), .val (.int ay1), .val (.int bx0), .unset, .unset, .unset, .unset, .unset, .unset, .unset] [(.int bx1)])) _
    refine XS.istore X120.here hx rfl (hb hby at_100) rfl (l' := #[.val (.long q1), .second, .val (.long q2), .second, .val (.long q3), .second, .val (.long q4), .second, .val (.int p5), .val (.int m1), .val (.int m2), .val (.int m3), .val (.int m4), .val (.int m5), .val (.int m6), .val (.int m7), .val (.int m8), .val (.int ax0), .val (.int ax1), .val (.int ay0), .val (.int ay1), .val (.int bx0), .val (.int bx1), .unset, .unset, .unset, .unset, .unset, .unset]) rfl ?_
    show Steps p.tables e below (T120.setTop (mkF m 102 #[.val (.long q1), .second, .val (.long q2), .second, .val (.long q3), .second, .val (.long q4), .second, .val (.int p5), .val (.int m1), .val (.int m2), .val (.int m3), .val (.int m4), .val (.int m5), .val (.int m6), .val (.int m7), .val (.int m8), .val (.int ax0), .val (.int ax1), .val (.int ay0), .val (.int ay1), .val (.int bx0), .val (.int bx1), .unset, .unset, .unset, .unset, .unset, .unset] [])) _
    refine XS.iload X120.here hx rfl (hb hby at_102) rfl ?_
    show Steps p.tables e below (T120.setTop (mkF m 104 #[.val (.long q1), .second, .val (.long q2), .second, .val (.long q3), .second, .val (.long q4), .second, .val (.int p5), .val (.int m1), .val (.int m2), .val (.int m3), .val (.int m4), .val (.int m5), .val (.int m6), .val (.int m7), .val (.int m8), .val (.int ax0), .val (.int ax1), .val (.int ay0), .val (.int ay1), .val (.int bx0), .val (.int bx1), .unset, .unset, .unset, .unset, .unset, .unset] [(.int m7)])) _
    refine XS.iload X120.here hx rfl (hb hby at_104) rfl ?_
    show Steps p.tables e below (T120.setTop (mkF m 106 #[.val (.long q1), .second, .val (.long q2), .second, .val (.long q3), .second, .val (.long q4), .second, .val (.int p5), .val (.int m1), .val (.int m2), .val (.int m3), .val (.int m4), .val (.int m5), .val (.int m6), .val (.int m7), .val (.int m8), .val (.int ax0), .val (.int ax1), .val (.int ay0), .val (.int ay1), .val (.int bx0), .val (.int bx1), .unset, .unset, .unset, .unset, .unset, .unset] [(.int m8), (.int m7)])) _
    refine st122 _ ?_
    exact k_)⟩
  obtain ⟨_, _, ⟨T124, L124, k124, n124⟩, -, X124, ⟨Lc124, hQ124, l124, y124, z124⟩, st124⟩ := Jvm.LawKit.callS X122 hx (y := (⟨"java/lang/Math", "max", "(II)I"⟩ : MethodName)) hown (mvT hZ (hw _ (List.mem_of_getElem? (i := 4) rfl))) (mvT hZ (hw _ (List.mem_of_getElem? (i := 5) rfl))) (mvT hZ (hw _ (List.mem_of_getElem? (i := 2) rfl))) (mvT hZ (hw _ (List.mem_of_getElem? (i := 6) rfl))) (by decide) (backOf (W := 0) (rmMax l Z a0 hw [] m7 m8 h0 n0 Z0 ) hZ (hw _ (List.mem_of_getElem? (i := 6) rfl)) (hw _ (List.mem_of_getElem? (i := 2) rfl)) (by decide) (by decide)) (g := (mkF m 115 #[.val (.long q1), .second, .val (.long q2), .second, .val (.long q3), .second, .val (.long q4), .second, .val (.int p5), .val (.int m1), .val (.int m2), .val (.int m3), .val (.int m4), .val (.int m5), .val (.int m6), .val (.int m7), .val (.int m8), .val (.int ax0), .val (.int ax1), .val (.int ay0), .val (.int ay1), .val (.int bx0), .val (.int bx1), .val (.int by0), .unset, .unset, .unset, .unset, .unset] [(.int m8), (.int m7)])) rfl (by rw [hml]; rfl) (argsL := [(.int m7), (.int m8)]) (rest := []) (lenOf pd_1 rfl) rfl (by show 2 * 0 + _ ≤ _; exact Nat.le_of_eq rfl) (hb hby at_115) (fun _ _ => ⟨rfl, e122, (by decide : 0 + 0 ≤ _), (by decide : 0 + 0 ≤ _)⟩)
  dsimp only [Pt.U, Pt.locs, Pt.cells, Pt.slots] at X124 l124 y124 z124 st124 hQ124
  subst l124 y124 z124
  obtain ⟨rfl, N124q, e124⟩ := hQ124
  have N124 := Fr.app N122 N124q
  obtain ⟨by1, hv_by1, pre125⟩ : ∃ z_ : Int32, z_ = (own_max m7 m8) ∧ ∀ t_, Steps p.tables e below (T124.setTop (mkF m 118 #[.val (.long q1), .second, .val (.long q2), .second, .val (.long q3), .second, .val (.long q4), .second, .val (.int p5), .val (.int m1), .val (.int m2), .val (.int m3), .val (.int m4), .val (.int m5), .val (.int m6), .val (.int m7), .val (.int m8), .val (.int ax0), .val (.int ax1), .val (.int ay0), .val (.int ay1), .val (.int bx0), .val (.int bx1), .val (.int by0), .unset, .unset, .unset, .unset, .unset] [(.int z_)])) t_ → Steps p.tables e below (s₁.setTop (entryFrame m #[(.long q1), (.long q2), (.long q3), (.long q4), (.int p5)] maxLocals)) t_ := ⟨_, rfl, fun t_ k_ => pre123 _ (by
    show Steps p.tables e below (T122.setTop (mkF m 109 #[.val (.long q1), .second, .val (.long q2), .second, .val (.long q3), .second, .val (.long q4), .second, .val (.int p5), .val (.int m1), .val (.int m2), .val (.int m3), .val (.int m4), .val (.int m5), .val (.int m6), .val (.int m7), .val (.int m8), .val (.int ax0), .val (.int ax1), .val (.int ay0), .val (.int ay1), .val (.int bx0), .val (.int bx1), .unset, .unset, .unset, .unset, .unset, .unset] [(.int by0)])) _
    refine XS.istore X122.here hx rfl (hb hby at_109) rfl (l' := #[.val (.long q1), .second, .val (.long q2), .second, .val (.long q3), .second, .val (.long q4), .second, .val (.int p5), .val (.int m1), .val (.int m2), .val (.int m3), .val (.int m4), .val (.int m5), .val (.int m6), .val (.int m7), .val (.int m8), .val (.int ax0), .val (.int ax1), .val (.int ay0), .val (.int ay1), .val (.int bx0), .val (.int bx1), .val (.int by0), .unset, .unset, .unset, .unset, .unset]) rfl ?_
    show Steps p.tables e below (T122.setTop (mkF m 111 #[.val (.long q1), .second, .val (.long q2), .second, .val (.long q3), .second, .val (.long q4), .second, .val (.int p5), .val (.int m1), .val (.int m2), .val (.int m3), .val (.int m4), .val (.int m5), .val (.int m6), .val (.int m7), .val (.int m8), .val (.int ax0), .val (.int ax1), .val (.int ay0), .val (.int ay1), .val (.int bx0), .val (.int bx1), .val (.int by0), .unset, .unset, .unset, .unset, .unset] [])) _
    refine XS.iload X122.here hx rfl (hb hby at_111) rfl ?_
    show Steps p.tables e below (T122.setTop (mkF m 113 #[.val (.long q1), .second, .val (.long q2), .second, .val (.long q3), .second, .val (.long q4), .second, .val (.int p5), .val (.int m1), .val (.int m2), .val (.int m3), .val (.int m4), .val (.int m5), .val (.int m6), .val (.int m7), .val (.int m8), .val (.int ax0), .val (.int ax1), .val (.int ay0), .val (.int ay1), .val (.int bx0), .val (.int bx1), .val (.int by0), .unset, .unset, .unset, .unset, .unset] [(.int m7)])) _
    refine XS.iload X122.here hx rfl (hb hby at_113) rfl ?_
    show Steps p.tables e below (T122.setTop (mkF m 115 #[.val (.long q1), .second, .val (.long q2), .second, .val (.long q3), .second, .val (.long q4), .second, .val (.int p5), .val (.int m1), .val (.int m2), .val (.int m3), .val (.int m4), .val (.int m5), .val (.int m6), .val (.int m7), .val (.int m8), .val (.int ax0), .val (.int ax1), .val (.int ay0), .val (.int ay1), .val (.int bx0), .val (.int bx1), .val (.int by0), .unset, .unset, .unset, .unset, .unset] [(.int m8), (.int m7)])) _
    refine st124 _ ?_
    exact k_)⟩
  have o_ax : ax0.toInt ≤ ax1.toInt := own_mm hv_ax0 hv_ax1
  have o_ay : ay0.toInt ≤ ay1.toInt := own_mm hv_ay0 hv_ay1
  have o_bx : bx0.toInt ≤ bx1.toInt := own_mm hv_bx0 hv_bx1
  have o_by : by0.toInt ≤ by1.toInt := own_mm hv_by0 hv_by1
  obtain ⟨T126, h126, X126, e126, Ext_ba, E_ba, D_ba, -, st126⟩ := newO X124 hx hZ hown (hw _ (List.mem_of_getElem? (i := 7) rfl)) (hw _ (List.mem_of_getElem? (i := 8) rfl)) (hw _ (List.mem_of_getElem? (i := 9) rfl)) e124 (g := (mkF m 120 #[.val (.long q1), .second, .val (.long q2), .second, .val (.long q3), .second, .val (.long q4), .second, .val (.int p5), .val (.int m1), .val (.int m2), .val (.int m3), .val (.int m4), .val (.int m5), .val (.int m6), .val (.int m7), .val (.int m8), .val (.int ax0), .val (.int ax1), .val (.int ay0), .val (.int ay1), .val (.int bx0), .val (.int bx1), .val (.int by0), .val (.int by1), .unset, .unset, .unset, .unset] [])) rfl (hb hby at_120) (by decide) (by decide)
  obtain ⟨ba, eq_ba⟩ : ∃ z, z = h0.size := ⟨_, rfl⟩
  rw [← eq_ba] at E_ba D_ba st126
  have g_ba : n0 ≤ ba := Nat.le_trans Z0 (Nat.le_of_eq eq_ba.symm)
  have O_127 := O.ext Ext_ba
  have Z128 : n0 ≤ h126.size := Nat.le_trans Z0 (Ext_ba.1)
  have F0_ba : Fld Z h126 ba "com/example/wakeline/wakeline/model/Box" "xmin" "D" (.double 0) := D_ba (Or.inr (hw _ (List.mem_of_getElem? (i := 22) rfl))) (ty := .double) (by decide)
  have F1_ba : Fld Z h126 ba "com/example/wakeline/wakeline/model/Box" "ymin" "D" (.double 0) := D_ba (Or.inr (hw _ (List.mem_of_getElem? (i := 24) rfl))) (ty := .double) (by decide)
  have F2_ba : Fld Z h126 ba "com/example/wakeline/wakeline/model/Box" "xmax" "D" (.double 0) := D_ba (Or.inr (hw _ (List.mem_of_getElem? (i := 26) rfl))) (ty := .double) (by decide)
  have F3_ba : Fld Z h126 ba "com/example/wakeline/wakeline/model/Box" "ymax" "D" (.double 0) := D_ba (Or.inr (hw _ (List.mem_of_getElem? (i := 28) rfl))) (ty := .double) (by decide)
  obtain ⟨_, _, ⟨T129, L129, k129, n129⟩, -, X129, ⟨Lc129, hQ129, l129, y129, z129⟩, st129⟩ := X126.specialBack hx (y := (⟨"com/example/wakeline/wakeline/model/Box", "<init>", "(DDDD)V"⟩ : MethodName)) rfl hown (mvT hZ (hw _ (List.mem_of_getElem? (i := 10) rfl))) (mvT hZ (hw _ (List.mem_of_getElem? (i := 11) rfl))) (mvT hZ (hw _ (List.mem_of_getElem? (i := 12) rfl))) (by decide) (backOf (W := 1) (rmC l Z a0 hw [] ba (FP.i2d ax0) (FP.i2d ay0) (FP.i2d ax1) (FP.i2d ay1) h126 n0 Z128 E_ba F0_ba F1_ba F2_ba F3_ba g_ba) hZ (hw _ (List.mem_of_getElem? (i := 12) rfl)) (hw _ (List.mem_of_getElem? (i := 9) rfl)) (by decide) (by decide)) (g := (mkF m 136 #[.val (.long q1), .second, .val (.long q2), .second, .val (.long q3), .second, .val (.long q4), .second, .val (.int p5), .val (.int m1), .val (.int m2), .val (.int m3), .val (.int m4), .val (.int m5), .val (.int m6), .val (.int m7), .val (.int m8), .val (.int ax0), .val (.int ax1), .val (.int ay0), .val (.int ay1), .val (.int bx0), .val (.int bx1), .val (.int by0), .val (.int by1), .unset, .unset, .unset, .unset] [(.double (FP.i2d ay1)), (.double (FP.i2d ax1)), (.double (FP.i2d ay0)), (.double (FP.i2d ax0)), (.ref ba), (.ref ba)])) rfl (by rw [hml]; rfl) (Steps.refl _) (a := ba) (argsL := [(.double (FP.i2d ax0)), (.double (FP.i2d ay0)), (.double (FP.i2d ax1)), (.double (FP.i2d ay1))]) (rest := [(.ref ba)]) (lenOf pd_2 rfl) rfl (by show 2 * 0 + _ ≤ _; exact Nat.le_of_eq rfl) (hb hby at_136) (fun _ _ => ⟨rfl, e126, (by decide : 1 + 0 ≤ _), (by decide : 4 + 0 ≤ _)⟩)
  dsimp only [Pt.U, Pt.locs, Pt.cells, Pt.slots] at X129 l129 y129 z129 st129 hQ129
  subst l129 y129 z129
  obtain ⟨rfl, N129q, K129, E129, F0129, F1129, F2129, F3129⟩ := hQ129
  have N129 := Fr.app N124 N129q
  have Z131 : n0 ≤ T129.heap.size := Nat.le_trans Z128 (K129.1)
  have O_132 := O_127.keep K129 (allS g_ba all0)
  obtain ⟨T133, h133, X133, e133, Ext_bb, E_bb, D_bb, -, st133⟩ := newO X129 hx hZ hown (hw _ (List.mem_of_getElem? (i := 7) rfl)) (hw _ (List.mem_of_getElem? (i := 8) rfl)) (hw _ (List.mem_of_getElem? (i := 9) rfl)) rfl (g := (mkF m 141 #[.val (.long q1), .second, .val (.long q2), .second, .val (.long q3), .second, .val (.long q4), .second, .val (.int p5), .val (.int m1), .val (.int m2), .val (.int m3), .val (.int m4), .val (.int m5), .val (.int m6), .val (.int m7), .val (.int m8), .val (.int ax0), .val (.int ax1), .val (.int ay0), .val (.int ay1), .val (.int bx0), .val (.int bx1), .val (.int by0), .val (.int by1), .val (.ref ba), .unset, .unset, .unset] [])) rfl (hb hby at_141) (by decide) (by decide)
  obtain ⟨bb, eq_bb⟩ : ∃ z, z = T129.heap.size := ⟨_, rfl⟩
  rw [← eq_bb] at E_bb D_bb st133
  have g_bb : n0 ≤ bb := Nat.le_trans Z131 (Nat.le_of_eq eq_bb.symm)
  have O_134 := O_132.ext Ext_bb
  have ne_ba_bb : ba ≠ bb := Nat.ne_of_lt (Nat.lt_of_lt_of_le E129.lt (Nat.le_of_eq eq_bb.symm))
  have E_ba_135 := E129.ext Ext_bb
  have F0_ba_136 := F0129.ext Ext_bb
  have F1_ba_137 := F1129.ext Ext_bb
  have F2_ba_138 := F2129.ext Ext_bb
  have F3_ba_139 := F3129.ext Ext_bb
  have Z140 : n0 ≤ h133.size := Nat.le_trans Z131 (Ext_bb.1)
  have F0_bb : Fld Z h133 bb "com/example/wakeline/wakeline/model/Box" "xmin" "D" (.double 0) := D_bb (Or.inr (hw _ (List.mem_of_getElem? (i := 22) rfl))) (ty := .double) (by decide)
  have F1_bb : Fld Z h133 bb "com/example/wakeline/wakeline/model/Box" "ymin" "D" (.double 0) := D_bb (Or.inr (hw _ (List.mem_of_getElem? (i := 24) rfl))) (ty := .double) (by decide)
  have F2_bb : Fld Z h133 bb "com/example/wakeline/wakeline/model/Box" "xmax" "D" (.double 0) := D_bb (Or.inr (hw _ (List.mem_of_getElem? (i := 26) rfl))) (ty := .double) (by decide)
  have F3_bb : Fld Z h133 bb "com/example/wakeline/wakeline/model/Box" "ymax" "D" (.double 0) := D_bb (Or.inr (hw _ (List.mem_of_getElem? (i := 28) rfl))) (ty := .double) (by decide)
  obtain ⟨_, _, ⟨T141, L141, k141, n141⟩, -, X141, ⟨Lc141, hQ141, l141, y141, z141⟩, st141⟩ := X133.specialBack hx (y := (⟨"com/example/wakeline/wakeline/model/Box", "<init>", "(DDDD)V"⟩ : MethodName)) rfl hown (mvT hZ (hw _ (List.mem_of_getElem? (i := 10) rfl))) (mvT hZ (hw _ (List.mem_of_getElem? (i := 11) rfl))) (mvT hZ (hw _ (List.mem_of_getElem? (i := 12) rfl))) (by decide) (backOf (W := 1) (rmC l Z a0 hw [] bb (FP.i2d bx0) (FP.i2d by0) (FP.i2d bx1) (FP.i2d by1) h133 n0 Z140 E_bb F0_bb F1_bb F2_bb F3_bb g_bb) hZ (hw _ (List.mem_of_getElem? (i := 12) rfl)) (hw _ (List.mem_of_getElem? (i := 9) rfl)) (by decide) (by decide)) (g := (mkF m 157 #[.val (.long q1), .second, .val (.long q2), .second, .val (.long q3), .second, .val (.long q4), .second, .val (.int p5), .val (.int m1), .val (.int m2), .val (.int m3), .val (.int m4), .val (.int m5), .val (.int m6), .val (.int m7), .val (.int m8), .val (.int ax0), .val (.int ax1), .val (.int ay0), .val (.int ay1), .val (.int bx0), .val (.int bx1), .val (.int by0), .val (.int by1), .val (.ref ba), .unset, .unset, .unset] [(.double (FP.i2d by1)), (.double (FP.i2d bx1)), (.double (FP.i2d by0)), (.double (FP.i2d bx0)), (.ref bb), (.ref bb)])) rfl (by rw [hml]; rfl) (Steps.refl _) (a := bb) (argsL := [(.double (FP.i2d bx0)), (.double (FP.i2d by0)), (.double (FP.i2d bx1)), (.double (FP.i2d by1))]) (rest := [(.ref bb)]) (lenOf pd_2 rfl) rfl (by show 2 * 0 + _ ≤ _; exact Nat.le_of_eq rfl) (hb hby at_157) (fun _ _ => ⟨rfl, e133, (by decide : 2 + 0 ≤ _), (by decide : 8 + 0 ≤ _)⟩)
  dsimp only [Pt.U, Pt.locs, Pt.cells, Pt.slots] at X141 l141 y141 z141 st141 hQ141
  subst l141 y141 z141
  obtain ⟨rfl, N141q, K141, E141, F0141, F1141, F2141, F3141⟩ := hQ141
  have N141 := Fr.app N129 N141q
  have E_ba_143 := E_ba_135.keep K141
  have F0_ba_144 := F0_ba_136.keep K141 (ninS ne_ba_bb nin0)
  have F1_ba_145 := F1_ba_137.keep K141 (ninS ne_ba_bb nin0)
  have F2_ba_146 := F2_ba_138.keep K141 (ninS ne_ba_bb nin0)
  have F3_ba_147 := F3_ba_139.keep K141 (ninS ne_ba_bb nin0)
  have Z149 : n0 ≤ T141.heap.size := Nat.le_trans Z140 (K141.1)
  have O_150 := O_134.keep K141 (allS g_bb all0)
  have OX := O_150.2
  have pre151 : ∀ t_, Steps p.tables e below (T141.setTop (mkF m 172 #[.val (.long q1), .second, .val (.long q2), .second, .val (.long q3), .second, .val (.long q4), .second, .val (.int p5), .val (.int m1), .val (.int m2), .val (.int m3), .val (.int m4), .val (.int m5), .val (.int m6), .val (.int m7), .val (.int m8), .val (.int ax0), .val (.int ax1), .val (.int ay0), .val (.int ay1), .val (.int bx0), .val (.int bx1), .val (.int by0), .val (.int by1), .val (.ref ba), .val (.ref bb), .val (.int (p5 &&& (7 : Int32))), .unset] [(.int (1 : Int32)), (.int (p5 &&& (7 : Int32)))])) t_ → Steps p.tables e below (s₁.setTop (entryFrame m #[(.long q1), (.long q2), (.long q3), (.long q4), (.int p5)] maxLocals)) t_ := fun t_ k_ => pre125 _ (by
    show Steps p.tables e below (T124.setTop (mkF m 118 #[.val (.long q1), .second, .val (.long q2), .second, .val (.long q3), .second, .val (.long q4), .second, .val (.int p5), .val (.int m1), .val (.int m2), .val (.int m3), .val (.int m4), .val (.int m5), .val (.int m6), .val (.int m7), .val (.int m8), .val (.int ax0), .val (.int ax1), .val (.int ay0), .val (.int ay1), .val (.int bx0), .val (.int bx1), .val (.int by0), .unset, .unset, .unset, .unset, .unset] [(.int by1)])) _
    refine XS.istore X124.here hx rfl (hb hby at_118) rfl (l' := #[.val (.long q1), .second, .val (.long q2), .second, .val (.long q3), .second, .val (.long q4), .second, .val (.int p5), .val (.int m1), .val (.int m2), .val (.int m3), .val (.int m4), .val (.int m5), .val (.int m6), .val (.int m7), .val (.int m8), .val (.int ax0), .val (.int ax1), .val (.int ay0), .val (.int ay1), .val (.int bx0), .val (.int bx1), .val (.int by0), .val (.int by1), .unset, .unset, .unset, .unset]) rfl ?_
    show Steps p.tables e below (T124.setTop (mkF m 120 #[.val (.long q1), .second, .val (.long q2), .second, .val (.long q3), .second, .val (.long q4), .second, .val (.int p5), .val (.int m1), .val (.int m2), .val (.int m3), .val (.int m4), .val (.int m5), .val (.int m6), .val (.int m7), .val (.int m8), .val (.int ax0), .val (.int ax1), .val (.int ay0), .val (.int ay1), .val (.int bx0), .val (.int bx1), .val (.int by0), .val (.int by1), .unset, .unset, .unset, .unset] [])) _
    refine st126 _ ?_
    show Steps p.tables e below (T126.setTop (mkF m 123 #[.val (.long q1), .second, .val (.long q2), .second, .val (.long q3), .second, .val (.long q4), .second, .val (.int p5), .val (.int m1), .val (.int m2), .val (.int m3), .val (.int m4), .val (.int m5), .val (.int m6), .val (.int m7), .val (.int m8), .val (.int ax0), .val (.int ax1), .val (.int ay0), .val (.int ay1), .val (.int bx0), .val (.int bx1), .val (.int by0), .val (.int by1), .unset, .unset, .unset, .unset] [(.ref ba)])) _
    refine XS.dup X126.here hx rfl (hb hby at_123) rfl rfl ?_
    show Steps p.tables e below (T126.setTop (mkF m 124 #[.val (.long q1), .second, .val (.long q2), .second, .val (.long q3), .second, .val (.long q4), .second, .val (.int p5), .val (.int m1), .val (.int m2), .val (.int m3), .val (.int m4), .val (.int m5), .val (.int m6), .val (.int m7), .val (.int m8), .val (.int ax0), .val (.int ax1), .val (.int ay0), .val (.int ay1), .val (.int bx0), .val (.int bx1), .val (.int by0), .val (.int by1), .unset, .unset, .unset, .unset] [(.ref ba), (.ref ba)])) _
    refine XS.iload X126.here hx rfl (hb hby at_124) rfl ?_
    show Steps p.tables e below (T126.setTop (mkF m 126 #[.val (.long q1), .second, .val (.long q2), .second, .val (.long q3), .second, .val (.long q4), .second, .val (.int p5), .val (.int m1), .val (.int m2), .val (.int m3), .val (.int m4), .val (.int m5), .val (.int m6), .val (.int m7), .val (.int m8), .val (.int ax0), .val (.int ax1), .val (.int ay0), .val (.int ay1), .val (.int bx0), .val (.int bx1), .val (.int by0), .val (.int by1), .unset, .unset, .unset, .unset] [(.int ax0), (.ref ba), (.ref ba)])) _
    refine XS.i2dS X126.here hx rfl (hb hby at_126) rfl rfl ?_
    show Steps p.tables e below (T126.setTop (mkF m 127 #[.val (.long q1), .second, .val (.long q2), .second, .val (.long q3), .second, .val (.long q4), .second, .val (.int p5), .val (.int m1), .val (.int m2), .val (.int m3), .val (.int m4), .val (.int m5), .val (.int m6), .val (.int m7), .val (.int m8), .val (.int ax0), .val (.int ax1), .val (.int ay0), .val (.int ay1), .val (.int bx0), .val (.int bx1), .val (.int by0), .val (.int by1), .unset, .unset, .unset, .unset] [(.double (FP.i2d ax0)), (.ref ba), (.ref ba)])) _
    refine XS.iload X126.here hx rfl (hb hby at_127) rfl ?_
    show Steps p.tables e below (T126.setTop (mkF m 129 #[.val (.long q1), .second, .val (.long q2), .second, .val (.long q3), .second, .val (.long q4), .second, .val (.int p5), .val (.int m1), .val (.int m2), .val (.int m3), .val (.int m4), .val (.int m5), .val (.int m6), .val (.int m7), .val (.int m8), .val (.int ax0), .val (.int ax1), .val (.int ay0), .val (.int ay1), .val (.int bx0), .val (.int bx1), .val (.int by0), .val (.int by1), .unset, .unset, .unset, .unset] [(.int ay0), (.double (FP.i2d ax0)), (.ref ba), (.ref ba)])) _
    refine XS.i2dS X126.here hx rfl (hb hby at_129) rfl rfl ?_
    show Steps p.tables e below (T126.setTop (mkF m 130 #[.val (.long q1), .second, .val (.long q2), .second, .val (.long q3), .second, .val (.long q4), .second, .val (.int p5), .val (.int m1), .val (.int m2), .val (.int m3), .val (.int m4), .val (.int m5), .val (.int m6), .val (.int m7), .val (.int m8), .val (.int ax0), .val (.int ax1), .val (.int ay0), .val (.int ay1), .val (.int bx0), .val (.int bx1), .val (.int by0), .val (.int by1), .unset, .unset, .unset, .unset] [(.double (FP.i2d ay0)), (.double (FP.i2d ax0)), (.ref ba), (.ref ba)])) _
    refine XS.iload X126.here hx rfl (hb hby at_130) rfl ?_
    show Steps p.tables e below (T126.setTop (mkF m 132 #[.val (.long q1), .second, .val (.long q2), .second, .val (.long q3), .second, .val (.long q4), .second, .val (.int p5), .val (.int m1), .val (.int m2), .val (.int m3), .val (.int m4), .val (.int m5), .val (.int m6), .val (.int m7), .val (.int m8), .val (.int ax0), .val (.int ax1), .val (.int ay0), .val (.int ay1), .val (.int bx0), .val (.int bx1), .val (.int by0), .val (.int by1), .unset, .unset, .unset, .unset] [(.int ax1), (.double (FP.i2d ay0)), (.double (FP.i2d ax0)), (.ref ba), (.ref ba)])) _
    refine XS.i2dS X126.here hx rfl (hb hby at_132) rfl rfl ?_
    show Steps p.tables e below (T126.setTop (mkF m 133 #[.val (.long q1), .second, .val (.long q2), .second, .val (.long q3), .second, .val (.long q4), .second, .val (.int p5), .val (.int m1), .val (.int m2), .val (.int m3), .val (.int m4), .val (.int m5), .val (.int m6), .val (.int m7), .val (.int m8), .val (.int ax0), .val (.int ax1), .val (.int ay0), .val (.int ay1), .val (.int bx0), .val (.int bx1), .val (.int by0), .val (.int by1), .unset, .unset, .unset, .unset] [(.double (FP.i2d ax1)), (.double (FP.i2d ay0)), (.double (FP.i2d ax0)), (.ref ba), (.ref ba)])) _
    refine XS.iload X126.here hx rfl (hb hby at_133) rfl ?_
    show Steps p.tables e below (T126.setTop (mkF m 135 #[.val (.long q1), .second, .val (.long q2), .second, .val (.long q3), .second, .val (.long q4), .second, .val (.int p5), .val (.int m1), .val (.int m2), .val (.int m3), .val (.int m4), .val (.int m5), .val (.int m6), .val (.int m7), .val (.int m8), .val (.int ax0), .val (.int ax1), .val (.int ay0), .val (.int ay1), .val (.int bx0), .val (.int bx1), .val (.int by0), .val (.int by1), .unset, .unset, .unset, .unset] [(.int ay1), (.double (FP.i2d ax1)), (.double (FP.i2d ay0)), (.double (FP.i2d ax0)), (.ref ba), (.ref ba)])) _
    refine XS.i2dS X126.here hx rfl (hb hby at_135) rfl rfl ?_
    show Steps p.tables e below (T126.setTop (mkF m 136 #[.val (.long q1), .second, .val (.long q2), .second, .val (.long q3), .second, .val (.long q4), .second, .val (.int p5), .val (.int m1), .val (.int m2), .val (.int m3), .val (.int m4), .val (.int m5), .val (.int m6), .val (.int m7), .val (.int m8), .val (.int ax0), .val (.int ax1), .val (.int ay0), .val (.int ay1), .val (.int bx0), .val (.int bx1), .val (.int by0), .val (.int by1), .unset, .unset, .unset, .unset] [(.double (FP.i2d ay1)), (.double (FP.i2d ax1)), (.double (FP.i2d ay0)), (.double (FP.i2d ax0)), (.ref ba), (.ref ba)])) _
    refine st129.trans ?_
    show Steps p.tables e below (T129.setTop (mkF m 139 #[.val (.long q1), .second, .val (.long q2), .second, .val (.long q3), .second, .val (.long q4), .second, .val (.int p5), .val (.int m1), .val (.int m2), .val (.int m3), .val (.int m4), .val (.int m5), .val (.int m6), .val (.int m7), .val (.int m8), .val (.int ax0), .val (.int ax1), .val (.int ay0), .val (.int ay1), .val (.int bx0), .val (.int bx1), .val (.int by0), .val (.int by1), .unset, .unset, .unset, .unset] [(.ref ba)])) _
    refine XS.astore X129.here hx rfl (hb hby at_139) rfl rfl (l' := #[.val (.long q1), .second, .val (.long q2), .second, .val (.long q3), .second, .val (.long q4), .second, .val (.int p5), .val (.int m1), .val (.int m2), .val (.int m3), .val (.int m4), .val (.int m5), .val (.int m6), .val (.int m7), .val (.int m8), .val (.int ax0), .val (.int ax1), .val (.int ay0), .val (.int ay1), .val (.int bx0), .val (.int bx1), .val (.int by0), .val (.int by1), .val (.ref ba), .unset, .unset, .unset]) rfl ?_
    show Steps p.tables e below (T129.setTop (mkF m 141 #[.val (.long q1), .second, .val (.long q2), .second, .val (.long q3), .second, .val (.long q4), .second, .val (.int p5), .val (.int m1), .val (.int m2), .val (.int m3), .val (.int m4), .val (.int m5), .val (.int m6), .val (.int m7), .val (.int m8), .val (.int ax0), .val (.int ax1), .val (.int ay0), .val (.int ay1), .val (.int bx0), .val (.int bx1), .val (.int by0), .val (.int by1), .val (.ref ba), .unset, .unset, .unset] [])) _
    refine st133 _ ?_
    show Steps p.tables e below (T133.setTop (mkF m 144 #[.val (.long q1), .second, .val (.long q2), .second, .val (.long q3), .second, .val (.long q4), .second, .val (.int p5), .val (.int m1), .val (.int m2), .val (.int m3), .val (.int m4), .val (.int m5), .val (.int m6), .val (.int m7), .val (.int m8), .val (.int ax0), .val (.int ax1), .val (.int ay0), .val (.int ay1), .val (.int bx0), .val (.int bx1), .val (.int by0), .val (.int by1), .val (.ref ba), .unset, .unset, .unset] [(.ref bb)])) _
    refine XS.dup X133.here hx rfl (hb hby at_144) rfl rfl ?_
    show Steps p.tables e below (T133.setTop (mkF m 145 #[.val (.long q1), .second, .val (.long q2), .second, .val (.long q3), .second, .val (.long q4), .second, .val (.int p5), .val (.int m1), .val (.int m2), .val (.int m3), .val (.int m4), .val (.int m5), .val (.int m6), .val (.int m7), .val (.int m8), .val (.int ax0), .val (.int ax1), .val (.int ay0), .val (.int ay1), .val (.int bx0), .val (.int bx1), .val (.int by0), .val (.int by1), .val (.ref ba), .unset, .unset, .unset] [(.ref bb), (.ref bb)])) _
    refine XS.iload X133.here hx rfl (hb hby at_145) rfl ?_
    show Steps p.tables e below (T133.setTop (mkF m 147 #[.val (.long q1), .second, .val (.long q2), .second, .val (.long q3), .second, .val (.long q4), .second, .val (.int p5), .val (.int m1), .val (.int m2), .val (.int m3), .val (.int m4), .val (.int m5), .val (.int m6), .val (.int m7), .val (.int m8), .val (.int ax0), .val (.int ax1), .val (.int ay0), .val (.int ay1), .val (.int bx0), .val (.int bx1), .val (.int by0), .val (.int by1), .val (.ref ba), .unset, .unset, .unset] [(.int bx0), (.ref bb), (.ref bb)])) _
    refine XS.i2dS X133.here hx rfl (hb hby at_147) rfl rfl ?_
    show Steps p.tables e below (T133.setTop (mkF m 148 #[.val (.long q1), .second, .val (.long q2), .second, .val (.long q3), .second, .val (.long q4), .second, .val (.int p5), .val (.int m1), .val (.int m2), .val (.int m3), .val (.int m4), .val (.int m5), .val (.int m6), .val (.int m7), .val (.int m8), .val (.int ax0), .val (.int ax1), .val (.int ay0), .val (.int ay1), .val (.int bx0), .val (.int bx1), .val (.int by0), .val (.int by1), .val (.ref ba), .unset, .unset, .unset] [(.double (FP.i2d bx0)), (.ref bb), (.ref bb)])) _
    refine XS.iload X133.here hx rfl (hb hby at_148) rfl ?_
    show Steps p.tables e below (T133.setTop (mkF m 150 #[.val (.long q1), .second, .val (.long q2), .second, .val (.long q3), .second, .val (.long q4), .second, .val (.int p5), .val (.int m1), .val (.int m2), .val (.int m3), .val (.int m4), .val (.int m5), .val (.int m6), .val (.int m7), .val (.int m8), .val (.int ax0), .val (.int ax1), .val (.int ay0), .val (.int ay1), .val (.int bx0), .val (.int bx1), .val (.int by0), .val (.int by1), .val (.ref ba), .unset, .unset, .unset] [(.int by0), (.double (FP.i2d bx0)), (.ref bb), (.ref bb)])) _
    refine XS.i2dS X133.here hx rfl (hb hby at_150) rfl rfl ?_
    show Steps p.tables e below (T133.setTop (mkF m 151 #[.val (.long q1), .second, .val (.long q2), .second, .val (.long q3), .second, .val (.long q4), .second, .val (.int p5), .val (.int m1), .val (.int m2), .val (.int m3), .val (.int m4), .val (.int m5), .val (.int m6), .val (.int m7), .val (.int m8), .val (.int ax0), .val (.int ax1), .val (.int ay0), .val (.int ay1), .val (.int bx0), .val (.int bx1), .val (.int by0), .val (.int by1), .val (.ref ba), .unset, .unset, .unset] [(.double (FP.i2d by0)), (.double (FP.i2d bx0)), (.ref bb), (.ref bb)])) _
    refine XS.iload X133.here hx rfl (hb hby at_151) rfl ?_
    show Steps p.tables e below (T133.setTop (mkF m 153 #[.val (.long q1), .second, .val (.long q2), .second, .val (.long q3), .second, .val (.long q4), .second, .val (.int p5), .val (.int m1), .val (.int m2), .val (.int m3), .val (.int m4), .val (.int m5), .val (.int m6), .val (.int m7), .val (.int m8), .val (.int ax0), .val (.int ax1), .val (.int ay0), .val (.int ay1), .val (.int bx0), .val (.int bx1), .val (.int by0), .val (.int by1), .val (.ref ba), .unset, .unset, .unset] [(.int bx1), (.double (FP.i2d by0)), (.double (FP.i2d bx0)), (.ref bb), (.ref bb)])) _
    refine XS.i2dS X133.here hx rfl (hb hby at_153) rfl rfl ?_
    show Steps p.tables e below (T133.setTop (mkF m 154 #[.val (.long q1), .second, .val (.long q2), .second, .val (.long q3), .second, .val (.long q4), .second, .val (.int p5), .val (.int m1), .val (.int m2), .val (.int m3), .val (.int m4), .val (.int m5), .val (.int m6), .val (.int m7), .val (.int m8), .val (.int ax0), .val (.int ax1), .val (.int ay0), .val (.int ay1), .val (.int bx0), .val (.int bx1), .val (.int by0), .val (.int by1), .val (.ref ba), .unset, .unset, .unset] [(.double (FP.i2d bx1)), (.double (FP.i2d by0)), (.double (FP.i2d bx0)), (.ref bb), (.ref bb)])) _
    refine XS.iload X133.here hx rfl (hb hby at_154) rfl ?_
    show Steps p.tables e below (T133.setTop (mkF m 156 #[.val (.long q1), .second, .val (.long q2), .second, .val (.long q3), .second, .val (.long q4), .second, .val (.int p5), .val (.int m1), .val (.int m2), .val (.int m3), .val (.int m4), .val (.int m5), .val (.int m6), .val (.int m7), .val (.int m8), .val (.int ax0), .val (.int ax1), .val (.int ay0), .val (.int ay1), .val (.int bx0), .val (.int bx1), .val (.int by0), .val (.int by1), .val (.ref ba), .unset, .unset, .unset] [(.int by1), (.double (FP.i2d bx1)), (.double (FP.i2d by0)), (.double (FP.i2d bx0)), (.ref bb), (.ref bb)])) _
    refine XS.i2dS X133.here hx rfl (hb hby at_156) rfl rfl ?_
    show Steps p.tables e below (T133.setTop (mkF m 157 #[.val (.long q1), .second, .val (.long q2), .second, .val (.long q3), .second, .val (.long q4), .second, .val (.int p5), .val (.int m1), .val (.int m2), .val (.int m3), .val (.int m4), .val (.int m5), .val (.int m6), .val (.int m7), .val (.int m8), .val (.int ax0), .val (.int ax1), .val (.int ay0), .val (.int ay1), .val (.int bx0), .val (.int bx1), .val (.int by0), .val (.int by1), .val (.ref ba), .unset, .unset, .unset] [(.double (FP.i2d by1)), (.double (FP.i2d bx1)), (.double (FP.i2d by0)), (.double (FP.i2d bx0)), (.ref bb), (.ref bb)])) _
    refine st141.trans ?_
    show Steps p.tables e below (T141.setTop (mkF m 160 #[.val (.long q1), .second, .val (.long q2), .second, .val (.long q3), .second, .val (.long q4), .second, .val (.int p5), .val (.int m1), .val (.int m2), .val (.int m3), .val (.int m4), .val (.int m5), .val (.int m6), .val (.int m7), .val (.int m8), .val (.int ax0), .val (.int ax1), .val (.int ay0), .val (.int ay1), .val (.int bx0), .val (.int bx1), .val (.int by0), .val (.int by1), .val (.ref ba), .unset, .unset, .unset] [(.ref bb)])) _
    refine XS.astore X141.here hx rfl (hb hby at_160) rfl rfl (l' := #[.val (.long q1), .second, .val (.long q2), .second, .val (.long q3), .second, .val (.long q4), .second, .val (.int p5), .val (.int m1), .val (.int m2), .val (.int m3), .val (.int m4), .val (.int m5), .val (.int m6), .val (.int m7), .val (.int m8), .val (.int ax0), .val (.int ax1), .val (.int ay0), .val (.int ay1), .val (.int bx0), .val (.int bx1), .val (.int by0), .val (.int by1), .val (.ref ba), .val (.ref bb), .unset, .unset]) rfl ?_
    show Steps p.tables e below (T141.setTop (mkF m 162 #[.val (.long q1), .second, .val (.long q2), .second, .val (.long q3), .second, .val (.long q4), .second, .val (.int p5), .val (.int m1), .val (.int m2), .val (.int m3), .val (.int m4), .val (.int m5), .val (.int m6), .val (.int m7), .val (.int m8), .val (.int ax0), .val (.int ax1), .val (.int ay0), .val (.int ay1), .val (.int bx0), .val (.int bx1), .val (.int by0), .val (.int by1), .val (.ref ba), .val (.ref bb), .unset, .unset] [])) _
    refine XS.iload X141.here hx rfl (hb hby at_162) rfl ?_
    show Steps p.tables e below (T141.setTop (mkF m 164 #[.val (.long q1), .second, .val (.long q2), .second, .val (.long q3), .second, .val (.long q4), .second, .val (.int p5), .val (.int m1), .val (.int m2), .val (.int m3), .val (.int m4), .val (.int m5), .val (.int m6), .val (.int m7), .val (.int m8), .val (.int ax0), .val (.int ax1), .val (.int ay0), .val (.int ay1), .val (.int bx0), .val (.int bx1), .val (.int by0), .val (.int by1), .val (.ref ba), .val (.ref bb), .unset, .unset] [(.int p5)])) _
    refine XS.bipush X141.here hx rfl (hb hby at_164) ?_
    show Steps p.tables e below (T141.setTop (mkF m 166 #[.val (.long q1), .second, .val (.long q2), .second, .val (.long q3), .second, .val (.long q4), .second, .val (.int p5), .val (.int m1), .val (.int m2), .val (.int m3), .val (.int m4), .val (.int m5), .val (.int m6), .val (.int m7), .val (.int m8), .val (.int ax0), .val (.int ax1), .val (.int ay0), .val (.int ay1), .val (.int bx0), .val (.int bx1), .val (.int by0), .val (.int by1), .val (.ref ba), .val (.ref bb), .unset, .unset] [(.int (7 : Int32)), (.int p5)])) _
    refine XS.iand X141.here hx rfl (hb hby at_166) rfl ?_
    show Steps p.tables e below (T141.setTop (mkF m 167 #[.val (.long q1), .second, .val (.long q2), .second, .val (.long q3), .second, .val (.long q4), .second, .val (.int p5), .val (.int m1), .val (.int m2), .val (.int m3), .val (.int m4), .val (.int m5), .val (.int m6), .val (.int m7), .val (.int m8), .val (.int ax0), .val (.int ax1), .val (.int ay0), .val (.int ay1), .val (.int bx0), .val (.int bx1), .val (.int by0), .val (.int by1), .val (.ref ba), .val (.ref bb), .unset, .unset] [(.int (p5 &&& (7 : Int32)))])) _
    refine XS.istore X141.here hx rfl (hb hby at_167) rfl (l' := #[.val (.long q1), .second, .val (.long q2), .second, .val (.long q3), .second, .val (.long q4), .second, .val (.int p5), .val (.int m1), .val (.int m2), .val (.int m3), .val (.int m4), .val (.int m5), .val (.int m6), .val (.int m7), .val (.int m8), .val (.int ax0), .val (.int ax1), .val (.int ay0), .val (.int ay1), .val (.int bx0), .val (.int bx1), .val (.int by0), .val (.int by1), .val (.ref ba), .val (.ref bb), .val (.int (p5 &&& (7 : Int32))), .unset]) rfl ?_
    show Steps p.tables e below (T141.setTop (mkF m 169 #[.val (.long q1), .second, .val (.long q2), .second, .val (.long q3), .second, .val (.long q4), .second, .val (.int p5), .val (.int m1), .val (.int m2), .val (.int m3), .val (.int m4), .val (.int m5), .val (.int m6), .val (.int m7), .val (.int m8), .val (.int ax0), .val (.int ax1), .val (.int ay0), .val (.int ay1), .val (.int bx0), .val (.int bx1), .val (.int by0), .val (.int by1), .val (.ref ba), .val (.ref bb), .val (.int (p5 &&& (7 : Int32))), .unset] [])) _
    refine XS.iload X141.here hx rfl (hb hby at_169) rfl ?_
    show Steps p.tables e below (T141.setTop (mkF m 171 #[.val (.long q1), .second, .val (.long q2), .second, .val (.long q3), .second, .val (.long q4), .second, .val (.int p5), .val (.int m1), .val (.int m2), .val (.int m3), .val (.int m4), .val (.int m5), .val (.int m6), .val (.int m7), .val (.int m8), .val (.int ax0), .val (.int ax1), .val (.int ay0), .val (.int ay1), .val (.int bx0), .val (.int bx1), .val (.int by0), .val (.int by1), .val (.ref ba), .val (.ref bb), .val (.int (p5 &&& (7 : Int32))), .unset] [(.int (p5 &&& (7 : Int32)))])) _
    refine XS.iconst X141.here hx rfl (hb hby at_171) ?_
    exact k_)
  by_cases hk1 : (p5 &&& (7 : Int32)) = (1 : Int32)
  · skip
    obtain ⟨T152, X152, e152, st152⟩ := getS2 X141 hx hZ hown (host := "") (Or.inl (hw _ (List.mem_of_getElem? (i := 40) rfl))) Via.refl rfl (S_E.ext OX) (g := (mkF m 177 #[.val (.long q1), .second, .val (.long q2), .second, .val (.long q3), .second, .val (.long q4), .second, .val (.int p5), .val (.int m1), .val (.int m2), .val (.int m3), .val (.int m4), .val (.int m5), .val (.int m6), .val (.int m7), .val (.int m8), .val (.int ax0), .val (.int ax1), .val (.int ay0), .val (.int ay1), .val (.int bx0), .val (.int bx1), .val (.int by0), .val (.int by1), .val (.ref ba), .val (.ref bb), .val (.int (p5 &&& (7 : Int32))), .unset] [(.ref ba)])) rfl (hb hby at_177)
    obtain ⟨cq153, kq153, q153a, q153b, q153c⟩ := isOf hZ e152 E_ba_143
    obtain ⟨_, _, ⟨T153, L153, k153, n153⟩, -, X153, ⟨Lc153, hQ153, l153, y153, z153⟩, st153⟩ := X152.virtualBack hx (y := (⟨"com/example/wakeline/wakeline/model/Box", "contains", "(Lcom/example/wakeline/wakeline/model/Box;)Z"⟩ : MethodName)) (z := (⟨"com/example/wakeline/wakeline/model/Box", "contains", "(Lcom/example/wakeline/wakeline/model/Box;)Z"⟩ : MethodName)) hown (mvT hZ (hw _ (List.mem_of_getElem? (i := 31) rfl))) (mvT hZ (hw _ (List.mem_of_getElem? (i := 32) rfl))) (notFace_of_selects (args := #[]) (mvT hZ (hw _ (List.mem_of_getElem? (i := 34) rfl)))) (mvT hZ (hw _ (List.mem_of_getElem? (i := 34) rfl))) (mvT hZ (hw _ (List.mem_of_getElem? (i := 33) rfl))) (by decide) (backOf (W := 0) (rmKE l Z a0 hw [] ba aE ax0 ay0 ax1 ay1 T141.heap n0 Z149 F0_ba_144 F1_ba_145 F2_ba_146 F3_ba_147 (E0.ext OX) (E1.ext OX) (E2.ext OX) (E3.ext OX)) hZ (hw _ (List.mem_of_getElem? (i := 35) rfl)) (hw _ (List.mem_of_getElem? (i := 9) rfl)) (by decide) (by decide)) q153a q153c (g := (mkF m 180 #[.val (.long q1), .second, .val (.long q2), .second, .val (.long q3), .second, .val (.long q4), .second, .val (.int p5), .val (.int m1), .val (.int m2), .val (.int m3), .val (.int m4), .val (.int m5), .val (.int m6), .val (.int m7), .val (.int m8), .val (.int ax0), .val (.int ax1), .val (.int ay0), .val (.int ay1), .val (.int bx0), .val (.int bx1), .val (.int by0), .val (.int by1), .val (.ref ba), .val (.ref bb), .val (.int (p5 &&& (7 : Int32))), .unset] [(.ref aE), (.ref ba)])) rfl (by rw [hml]; rfl) (Steps.refl _) (argsL := [(.ref aE)]) (rest := []) (lenOf pd_3 rfl) rfl (by show 2 * 0 + _ ≤ _; exact Nat.le_of_eq rfl) (hb hby at_180) (fun _ _ => ⟨rfl, e152, (by decide : 2 + 0 ≤ _), (by decide : 8 + 0 ≤ _)⟩)
    dsimp only [Pt.U, Pt.locs, Pt.cells, Pt.slots] at X153 l153 y153 z153 st153 hQ153
    subst l153 y153 z153
    obtain ⟨rfl, N153q, e153⟩ := hQ153
    have N153 := Fr.app N141 N153q
    have pre154 : ∀ t_, Steps p.tables e below (T153.setTop (mkF m 183 #[.val (.long q1), .second, .val (.long q2), .second, .val (.long q3), .second, .val (.long q4), .second, .val (.int p5), .val (.int m1), .val (.int m2), .val (.int m3), .val (.int m4), .val (.int m5), .val (.int m6), .val (.int m7), .val (.int m8), .val (.int ax0), .val (.int ax1), .val (.int ay0), .val (.int ay1), .val (.int bx0), .val (.int bx1), .val (.int by0), .val (.int by1), .val (.ref ba), .val (.ref bb), .val (.int (p5 &&& (7 : Int32))), .unset] [(.int (1 : Int32))])) t_ → Steps p.tables e below (s₁.setTop (entryFrame m #[(.long q1), (.long q2), (.long q3), (.long q4), (.int p5)] maxLocals)) t_ := fun t_ k_ => pre151 _ (by
      show Steps p.tables e below (T141.setTop (mkF m 172 #[.val (.long q1), .second, .val (.long q2), .second, .val (.long q3), .second, .val (.long q4), .second, .val (.int p5), .val (.int m1), .val (.int m2), .val (.int m3), .val (.int m4), .val (.int m5), .val (.int m6), .val (.int m7), .val (.int m8), .val (.int ax0), .val (.int ax1), .val (.int ay0), .val (.int ay1), .val (.int bx0), .val (.int bx1), .val (.int by0), .val (.int by1), .val (.ref ba), .val (.ref bb), .val (.int (p5 &&& (7 : Int32))), .unset] [(.int (1 : Int32)), (.int (p5 &&& (7 : Int32)))])) _
      refine XS.icmpNo X141.here hx rfl (hb hby at_172) rfl (teq hk1).2 ?_
      show Steps p.tables e below (T141.setTop (mkF m 175 #[.val (.long q1), .second, .val (.long q2), .second, .val (.long q3), .second, .val (.long q4), .second, .val (.int p5), .val (.int m1), .val (.int m2), .val (.int m3), .val (.int m4), .val (.int m5), .val (.int m6), .val (.int m7), .val (.int m8), .val (.int ax0), .val (.int ax1), .val (.int ay0), .val (.int ay1), .val (.int bx0), .val (.int bx1), .val (.int by0), .val (.int by1), .val (.ref ba), .val (.ref bb), .val (.int (p5 &&& (7 : Int32))), .unset] [])) _
      refine XS.aload X141.here hx rfl (hb hby at_175) rfl rfl ?_
      show Steps p.tables e below (T141.setTop (mkF m 177 #[.val (.long q1), .second, .val (.long q2), .second, .val (.long q3), .second, .val (.long q4), .second, .val (.int p5), .val (.int m1), .val (.int m2), .val (.int m3), .val (.int m4), .val (.int m5), .val (.int m6), .val (.int m7), .val (.int m8), .val (.int ax0), .val (.int ax1), .val (.int ay0), .val (.int ay1), .val (.int bx0), .val (.int bx1), .val (.int by0), .val (.int by1), .val (.ref ba), .val (.ref bb), .val (.int (p5 &&& (7 : Int32))), .unset] [(.ref ba)])) _
      refine st152 _ ?_
      show Steps p.tables e below (T152.setTop (mkF m 180 #[.val (.long q1), .second, .val (.long q2), .second, .val (.long q3), .second, .val (.long q4), .second, .val (.int p5), .val (.int m1), .val (.int m2), .val (.int m3), .val (.int m4), .val (.int m5), .val (.int m6), .val (.int m7), .val (.int m8), .val (.int ax0), .val (.int ax1), .val (.int ay0), .val (.int ay1), .val (.int bx0), .val (.int bx1), .val (.int by0), .val (.int by1), .val (.ref ba), .val (.ref bb), .val (.int (p5 &&& (7 : Int32))), .unset] [(.ref aE), (.ref ba)])) _
      refine st153.trans ?_
      exact k_)
    obtain ⟨fs, hr, hrun, hended, hW, hsame⟩ := X153.leave (v := some (.int (1 : Int32))) (fun h => by rw [Bd.returns] at h; cases h)
    refine ⟨_, _, pre154 _ ?_, hrun, hended, _, _, rfl, ?_, ⟨_, rfl⟩, hW, hsame.mono (by decide) (by decide)⟩
    · show Steps p.tables e below (T153.setTop (mkF m 183 #[.val (.long q1), .second, .val (.long q2), .second, .val (.long q3), .second, .val (.long q4), .second, .val (.int p5), .val (.int m1), .val (.int m2), .val (.int m3), .val (.int m4), .val (.int m5), .val (.int m6), .val (.int m7), .val (.int m8), .val (.int ax0), .val (.int ax1), .val (.int ay0), .val (.int ay1), .val (.int bx0), .val (.int bx1), .val (.int by0), .val (.int by1), .val (.ref ba), .val (.ref bb), .val (.int (p5 &&& (7 : Int32))), .unset] [(.int (1 : Int32))])) _
      exact retN X153 hx (t := .boolean) Bd.returns (by simp) (hb hby at_183) hr
    · show Qrm0 Z q1 q2 q3 q4 p5 aA aE h0 n0 _ T153.heap _
      rw [e153]
      exact ⟨rfl, N153⟩
  · skip
    have pre155 : ∀ t_, Steps p.tables e below (T141.setTop (mkF m 187 #[.val (.long q1), .second, .val (.long q2), .second, .val (.long q3), .second, .val (.long q4), .second, .val (.int p5), .val (.int m1), .val (.int m2), .val (.int m3), .val (.int m4), .val (.int m5), .val (.int m6), .val (.int m7), .val (.int m8), .val (.int ax0), .val (.int ax1), .val (.int ay0), .val (.int ay1), .val (.int bx0), .val (.int bx1), .val (.int by0), .val (.int by1), .val (.ref ba), .val (.ref bb), .val (.int (p5 &&& (7 : Int32))), .unset] [(.int (2 : Int32)), (.int (p5 &&& (7 : Int32)))])) t_ → Steps p.tables e below (s₁.setTop (entryFrame m #[(.long q1), (.long q2), (.long q3), (.long q4), (.int p5)] maxLocals)) t_ := fun t_ k_ => pre151 _ (by
      show Steps p.tables e below (T141.setTop (mkF m 172 #[.val (.long q1), .second, .val (.long q2), .second, .val (.long q3), .second, .val (.long q4), .second, .val (.int p5), .val (.int m1), .val (.int m2), .val (.int m3), .val (.int m4), .val (.int m5), .val (.int m6), .val (.int m7), .val (.int m8), .val (.int ax0), .val (.int ax1), .val (.int ay0), .val (.int ay1), .val (.int bx0), .val (.int bx1), .val (.int by0), .val (.int by1), .val (.ref ba), .val (.ref bb), .val (.int (p5 &&& (7 : Int32))), .unset] [(.int (1 : Int32)), (.int (p5 &&& (7 : Int32)))])) _
      refine XS.icmpYes X141.here hx rfl (pc0 := 172) (pc' := 184) rfl (hb hby at_172) rfl (feq hk1).2 (by decide) (by decide) ?_
      show Steps p.tables e below (T141.setTop (mkF m 184 #[.val (.long q1), .second, .val (.long q2), .second, .val (.long q3), .second, .val (.long q4), .second, .val (.int p5), .val (.int m1), .val (.int m2), .val (.int m3), .val (.int m4), .val (.int m5), .val (.int m6), .val (.int m7), .val (.int m8), .val (.int ax0), .val (.int ax1), .val (.int ay0), .val (.int ay1), .val (.int bx0), .val (.int bx1), .val (.int by0), .val (.int by1), .val (.ref ba), .val (.ref bb), .val (.int (p5 &&& (7 : Int32))), .unset] [])) _
      refine XS.iload X141.here hx rfl (hb hby at_184) rfl ?_
      show Steps p.tables e below (T141.setTop (mkF m 186 #[.val (.long q1), .second, .val (.long q2), .second, .val (.long q3), .second, .val (.long q4), .second, .val (.int p5), .val (.int m1), .val (.int m2), .val (.int m3), .val (.int m4), .val (.int m5), .val (.int m6), .val (.int m7), .val (.int m8), .val (.int ax0), .val (.int ax1), .val (.int ay0), .val (.int ay1), .val (.int bx0), .val (.int bx1), .val (.int by0), .val (.int by1), .val (.ref ba), .val (.ref bb), .val (.int (p5 &&& (7 : Int32))), .unset] [(.int (p5 &&& (7 : Int32)))])) _
      refine XS.iconst X141.here hx rfl (hb hby at_186) ?_
      exact k_)
    by_cases hk2 : (p5 &&& (7 : Int32)) = (2 : Int32)
    · skip
      obtain ⟨T156, X156, e156, st156⟩ := getS2 X141 hx hZ hown (host := "") (Or.inl (hw _ (List.mem_of_getElem? (i := 40) rfl))) Via.refl rfl (S_E.ext OX) (g := (mkF m 190 #[.val (.long q1), .second, .val (.long q2), .second, .val (.long q3), .second, .val (.long q4), .second, .val (.int p5), .val (.int m1), .val (.int m2), .val (.int m3), .val (.int m4), .val (.int m5), .val (.int m6), .val (.int m7), .val (.int m8), .val (.int ax0), .val (.int ax1), .val (.int ay0), .val (.int ay1), .val (.int bx0), .val (.int bx1), .val (.int by0), .val (.int by1), .val (.ref ba), .val (.ref bb), .val (.int (p5 &&& (7 : Int32))), .unset] [])) rfl (hb hby at_190)
      obtain ⟨cq157, kq157, q157a, q157b, q157c⟩ := isOf hZ e156 (X_E.ext OX)
      obtain ⟨_, _, ⟨T157, L157, k157, n157⟩, -, X157, ⟨Lc157, hQ157, l157, y157, z157⟩, st157⟩ := X156.virtualBack hx (y := (⟨"com/example/wakeline/wakeline/model/Box", "contains", "(Lcom/example/wakeline/wakeline/model/Box;)Z"⟩ : MethodName)) (z := (⟨"com/example/wakeline/wakeline/model/Box", "contains", "(Lcom/example/wakeline/wakeline/model/Box;)Z"⟩ : MethodName)) hown (mvT hZ (hw _ (List.mem_of_getElem? (i := 31) rfl))) (mvT hZ (hw _ (List.mem_of_getElem? (i := 32) rfl))) (notFace_of_selects (args := #[]) (mvT hZ (hw _ (List.mem_of_getElem? (i := 34) rfl)))) (mvT hZ (hw _ (List.mem_of_getElem? (i := 34) rfl))) (mvT hZ (hw _ (List.mem_of_getElem? (i := 33) rfl))) (by decide) (backOf (W := 0) (rmEK l Z a0 hw [] aE bb bx0 by0 bx1 by1 T141.heap n0 Z149 (E0.ext OX) (E1.ext OX) (E2.ext OX) (E3.ext OX) F0141 F1141 F2141 F3141) hZ (hw _ (List.mem_of_getElem? (i := 35) rfl)) (hw _ (List.mem_of_getElem? (i := 9) rfl)) (by decide) (by decide)) q157a q157c (g := (mkF m 195 #[.val (.long q1), .second, .val (.long q2), .second, .val (.long q3), .second, .val (.long q4), .second, .val (.int p5), .val (.int m1), .val (.int m2), .val (.int m3), .val (.int m4), .val (.int m5), .val (.int m6), .val (.int m7), .val (.int m8), .val (.int ax0), .val (.int ax1), .val (.int ay0), .val (.int ay1), .val (.int bx0), .val (.int bx1), .val (.int by0), .val (.int by1), .val (.ref ba), .val (.ref bb), .val (.int (p5 &&& (7 : Int32))), .unset] [(.ref bb), (.ref aE)])) rfl (by rw [hml]; rfl) (Steps.refl _) (argsL := [(.ref bb)]) (rest := []) (lenOf pd_3 rfl) rfl (by show 2 * 0 + _ ≤ _; exact Nat.le_of_eq rfl) (hb hby at_195) (fun _ _ => ⟨rfl, e156, (by decide : 2 + 0 ≤ _), (by decide : 8 + 0 ≤ _)⟩)
      dsimp only [Pt.U, Pt.locs, Pt.cells, Pt.slots] at X157 l157 y157 z157 st157 hQ157
      subst l157 y157 z157
      obtain ⟨rfl, N157q, e157⟩ := hQ157
      have N157 := Fr.app N141 N157q
      have pre158 : ∀ t_, Steps p.tables e below (T157.setTop (mkF m 206 #[.val (.long q1), .second, .val (.long q2), .second, .val (.long q3), .second, .val (.long q4), .second, .val (.int p5), .val (.int m1), .val (.int m2), .val (.int m3), .val (.int m4), .val (.int m5), .val (.int m6), .val (.int m7), .val (.int m8), .val (.int ax0), .val (.int ax1), .val (.int ay0), .val (.int ay1), .val (.int bx0), .val (.int bx1), .val (.int by0), .val (.int by1), .val (.ref ba), .val (.ref bb), .val (.int (p5 &&& (7 : Int32))), .unset] [(.int (1 : Int32))])) t_ → Steps p.tables e below (s₁.setTop (entryFrame m #[(.long q1), (.long q2), (.long q3), (.long q4), (.int p5)] maxLocals)) t_ := fun t_ k_ => pre155 _ (by
        show Steps p.tables e below (T141.setTop (mkF m 187 #[.val (.long q1), .second, .val (.long q2), .second, .val (.long q3), .second, .val (.long q4), .second, .val (.int p5), .val (.int m1), .val (.int m2), .val (.int m3), .val (.int m4), .val (.int m5), .val (.int m6), .val (.int m7), .val (.int m8), .val (.int ax0), .val (.int ax1), .val (.int ay0), .val (.int ay1), .val (.int bx0), .val (.int bx1), .val (.int by0), .val (.int by1), .val (.ref ba), .val (.ref bb), .val (.int (p5 &&& (7 : Int32))), .unset] [(.int (2 : Int32)), (.int (p5 &&& (7 : Int32)))])) _
        refine XS.icmpNo X141.here hx rfl (hb hby at_187) rfl (teq hk2).2 ?_
        show Steps p.tables e below (T141.setTop (mkF m 190 #[.val (.long q1), .second, .val (.long q2), .second, .val (.long q3), .second, .val (.long q4), .second, .val (.int p5), .val (.int m1), .val (.int m2), .val (.int m3), .val (.int m4), .val (.int m5), .val (.int m6), .val (.int m7), .val (.int m8), .val (.int ax0), .val (.int ax1), .val (.int ay0), .val (.int ay1), .val (.int bx0), .val (.int bx1), .val (.int by0), .val (.int by1), .val (.ref ba), .val (.ref bb), .val (.int (p5 &&& (7 : Int32))), .unset] [])) _
        refine st156 _ ?_
        show Steps p.tables e below (T156.setTop (mkF m 193 #[.val (.long q1), .second, .val (.long q2), .second, .val (.long q3), .second, .val (.long q4), .second, .val (.int p5), .val (.int m1), .val (.int m2), .val (.int m3), .val (.int m4), .val (.int m5), .val (.int m6), .val (.int m7), .val (.int m8), .val (.int ax0), .val (.int ax1), .val (.int ay0), .val (.int ay1), .val (.int bx0), .val (.int bx1), .val (.int by0), .val (.int by1), .val (.ref ba), .val (.ref bb), .val (.int (p5 &&& (7 : Int32))), .unset] [(.ref aE)])) _
        refine XS.aload X156.here hx rfl (hb hby at_193) rfl rfl ?_
        show Steps p.tables e below (T156.setTop (mkF m 195 #[.val (.long q1), .second, .val (.long q2), .second, .val (.long q3), .second, .val (.long q4), .second, .val (.int p5), .val (.int m1), .val (.int m2), .val (.int m3), .val (.int m4), .val (.int m5), .val (.int m6), .val (.int m7), .val (.int m8), .val (.int ax0), .val (.int ax1), .val (.int ay0), .val (.int ay1), .val (.int bx0), .val (.int bx1), .val (.int by0), .val (.int by1), .val (.ref ba), .val (.ref bb), .val (.int (p5 &&& (7 : Int32))), .unset] [(.ref bb), (.ref aE)])) _
        refine st157.trans ?_
        show Steps p.tables e below (T157.setTop (mkF m 198 #[.val (.long q1), .second, .val (.long q2), .second, .val (.long q3), .second, .val (.long q4), .second, .val (.int p5), .val (.int m1), .val (.int m2), .val (.int m3), .val (.int m4), .val (.int m5), .val (.int m6), .val (.int m7), .val (.int m8), .val (.int ax0), .val (.int ax1), .val (.int ay0), .val (.int ay1), .val (.int bx0), .val (.int bx1), .val (.int by0), .val (.int by1), .val (.ref ba), .val (.ref bb), .val (.int (p5 &&& (7 : Int32))), .unset] [(.int (0 : Int32))])) _
        refine XS.ifNo X157.here hx rfl (hb hby at_198) rfl ((if0 _ _).trans (teq (rfl : (0 : Int32) = 0)).2) ?_
        show Steps p.tables e below (T157.setTop (mkF m 201 #[.val (.long q1), .second, .val (.long q2), .second, .val (.long q3), .second, .val (.long q4), .second, .val (.int p5), .val (.int m1), .val (.int m2), .val (.int m3), .val (.int m4), .val (.int m5), .val (.int m6), .val (.int m7), .val (.int m8), .val (.int ax0), .val (.int ax1), .val (.int ay0), .val (.int ay1), .val (.int bx0), .val (.int bx1), .val (.int by0), .val (.int by1), .val (.ref ba), .val (.ref bb), .val (.int (p5 &&& (7 : Int32))), .unset] [])) _
        refine XS.iconst X157.here hx rfl (hb hby at_201) ?_
        show Steps p.tables e below (T157.setTop (mkF m 202 #[.val (.long q1), .second, .val (.long q2), .second, .val (.long q3), .second, .val (.long q4), .second, .val (.int p5), .val (.int m1), .val (.int m2), .val (.int m3), .val (.int m4), .val (.int m5), .val (.int m6), .val (.int m7), .val (.int m8), .val (.int ax0), .val (.int ax1), .val (.int ay0), .val (.int ay1), .val (.int bx0), .val (.int bx1), .val (.int by0), .val (.int by1), .val (.ref ba), .val (.ref bb), .val (.int (p5 &&& (7 : Int32))), .unset] [(.int (1 : Int32))])) _
        refine XS.goto X157.here hx rfl (pc0 := 202) (pc' := 206) rfl (hb hby at_202) (by decide) (by decide) ?_
        exact k_)
      obtain ⟨fs, hr, hrun, hended, hW, hsame⟩ := X157.leave (v := some (.int (1 : Int32))) (fun h => by rw [Bd.returns] at h; cases h)
      refine ⟨_, _, pre158 _ ?_, hrun, hended, _, _, rfl, ?_, ⟨_, rfl⟩, hW, hsame.mono (by decide) (by decide)⟩
      · show Steps p.tables e below (T157.setTop (mkF m 206 #[.val (.long q1), .second, .val (.long q2), .second, .val (.long q3), .second, .val (.long q4), .second, .val (.int p5), .val (.int m1), .val (.int m2), .val (.int m3), .val (.int m4), .val (.int m5), .val (.int m6), .val (.int m7), .val (.int m8), .val (.int ax0), .val (.int ax1), .val (.int ay0), .val (.int ay1), .val (.int bx0), .val (.int bx1), .val (.int by0), .val (.int by1), .val (.ref ba), .val (.ref bb), .val (.int (p5 &&& (7 : Int32))), .unset] [(.int (1 : Int32))])) _
        exact retN X157 hx (t := .boolean) Bd.returns (by simp) (hb hby at_206) hr
      · show Qrm0 Z q1 q2 q3 q4 p5 aA aE h0 n0 _ T157.heap _
        rw [e157]
        exact ⟨rfl, N157⟩
    · skip
      have pre159 : ∀ t_, Steps p.tables e below (T141.setTop (mkF m 210 #[.val (.long q1), .second, .val (.long q2), .second, .val (.long q3), .second, .val (.long q4), .second, .val (.int p5), .val (.int m1), .val (.int m2), .val (.int m3), .val (.int m4), .val (.int m5), .val (.int m6), .val (.int m7), .val (.int m8), .val (.int ax0), .val (.int ax1), .val (.int ay0), .val (.int ay1), .val (.int bx0), .val (.int bx1), .val (.int by0), .val (.int by1), .val (.ref ba), .val (.ref bb), .val (.int (p5 &&& (7 : Int32))), .unset] [(.int (3 : Int32)), (.int (p5 &&& (7 : Int32)))])) t_ → Steps p.tables e below (s₁.setTop (entryFrame m #[(.long q1), (.long q2), (.long q3), (.long q4), (.int p5)] maxLocals)) t_ := fun t_ k_ => pre155 _ (by
        show Steps p.tables e below (T141.setTop (mkF m 187 #[.val (.long q1), .second, .val (.long q2), .second, .val (.long q3), .second, .val (.long q4), .second, .val (.int p5), .val (.int m1), .val (.int m2), .val (.int m3), .val (.int m4), .val (.int m5), .val (.int m6), .val (.int m7), .val (.int m8), .val (.int ax0), .val (.int ax1), .val (.int ay0), .val (.int ay1), .val (.int bx0), .val (.int bx1), .val (.int by0), .val (.int by1), .val (.ref ba), .val (.ref bb), .val (.int (p5 &&& (7 : Int32))), .unset] [(.int (2 : Int32)), (.int (p5 &&& (7 : Int32)))])) _
        refine XS.icmpYes X141.here hx rfl (pc0 := 187) (pc' := 207) rfl (hb hby at_187) rfl (feq hk2).2 (by decide) (by decide) ?_
        show Steps p.tables e below (T141.setTop (mkF m 207 #[.val (.long q1), .second, .val (.long q2), .second, .val (.long q3), .second, .val (.long q4), .second, .val (.int p5), .val (.int m1), .val (.int m2), .val (.int m3), .val (.int m4), .val (.int m5), .val (.int m6), .val (.int m7), .val (.int m8), .val (.int ax0), .val (.int ax1), .val (.int ay0), .val (.int ay1), .val (.int bx0), .val (.int bx1), .val (.int by0), .val (.int by1), .val (.ref ba), .val (.ref bb), .val (.int (p5 &&& (7 : Int32))), .unset] [])) _
        refine XS.iload X141.here hx rfl (hb hby at_207) rfl ?_
        show Steps p.tables e below (T141.setTop (mkF m 209 #[.val (.long q1), .second, .val (.long q2), .second, .val (.long q3), .second, .val (.long q4), .second, .val (.int p5), .val (.int m1), .val (.int m2), .val (.int m3), .val (.int m4), .val (.int m5), .val (.int m6), .val (.int m7), .val (.int m8), .val (.int ax0), .val (.int ax1), .val (.int ay0), .val (.int ay1), .val (.int bx0), .val (.int bx1), .val (.int by0), .val (.int by1), .val (.ref ba), .val (.ref bb), .val (.int (p5 &&& (7 : Int32))), .unset] [(.int (p5 &&& (7 : Int32)))])) _
        refine XS.iconst X141.here hx rfl (hb hby at_209) ?_
        exact k_)
      by_cases hk3 : (p5 &&& (7 : Int32)) = (3 : Int32)
      · skip
        obtain ⟨T160, X160, e160, st160⟩ := getS2 X141 hx hZ hown (host := "") (Or.inl (hw _ (List.mem_of_getElem? (i := 29) rfl))) Via.refl rfl (S_A.ext OX) (g := (mkF m 213 #[.val (.long q1), .second, .val (.long q2), .second, .val (.long q3), .second, .val (.long q4), .second, .val (.int p5), .val (.int m1), .val (.int m2), .val (.int m3), .val (.int m4), .val (.int m5), .val (.int m6), .val (.int m7), .val (.int m8), .val (.int ax0), .val (.int ax1), .val (.int ay0), .val (.int ay1), .val (.int bx0), .val (.int bx1), .val (.int by0), .val (.int by1), .val (.ref ba), .val (.ref bb), .val (.int (p5 &&& (7 : Int32))), .unset] [])) rfl (hb hby at_213)
        obtain ⟨cq161, kq161, q161a, q161b, q161c⟩ := isOf hZ e160 (X_A.ext OX)
        obtain ⟨_, _, ⟨T161, L161, k161, n161⟩, -, X161, ⟨Lc161, hQ161, l161, y161, z161⟩, st161⟩ := X160.virtualBack hx (y := (⟨"com/example/wakeline/wakeline/model/Box", "contains", "(Lcom/example/wakeline/wakeline/model/Box;)Z"⟩ : MethodName)) (z := (⟨"com/example/wakeline/wakeline/model/Box", "contains", "(Lcom/example/wakeline/wakeline/model/Box;)Z"⟩ : MethodName)) hown (mvT hZ (hw _ (List.mem_of_getElem? (i := 31) rfl))) (mvT hZ (hw _ (List.mem_of_getElem? (i := 32) rfl))) (notFace_of_selects (args := #[]) (mvT hZ (hw _ (List.mem_of_getElem? (i := 34) rfl)))) (mvT hZ (hw _ (List.mem_of_getElem? (i := 34) rfl))) (mvT hZ (hw _ (List.mem_of_getElem? (i := 33) rfl))) (by decide) (backOf (W := 0) (rmAK l Z a0 hw [] aA bb bx0 by0 bx1 by1 T141.heap n0 Z149 (A0.ext OX) (A1.ext OX) (A2.ext OX) (A3.ext OX) F0141 F1141 F2141 F3141) hZ (hw _ (List.mem_of_getElem? (i := 35) rfl)) (hw _ (List.mem_of_getElem? (i := 9) rfl)) (by decide) (by decide)) q161a q161c (g := (mkF m 218 #[.val (.long q1), .second, .val (.long q2), .second, .val (.long q3), .second, .val (.long q4), .second, .val (.int p5), .val (.int m1), .val (.int m2), .val (.int m3), .val (.int m4), .val (.int m5), .val (.int m6), .val (.int m7), .val (.int m8), .val (.int ax0), .val (.int ax1), .val (.int ay0), .val (.int ay1), .val (.int bx0), .val (.int bx1), .val (.int by0), .val (.int by1), .val (.ref ba), .val (.ref bb), .val (.int (p5 &&& (7 : Int32))), .unset] [(.ref bb), (.ref aA)])) rfl (by rw [hml]; rfl) (Steps.refl _) (argsL := [(.ref bb)]) (rest := []) (lenOf pd_3 rfl) rfl (by show 2 * 0 + _ ≤ _; exact Nat.le_of_eq rfl) (hb hby at_218) (fun _ _ => ⟨rfl, e160, (by decide : 2 + 0 ≤ _), (by decide : 8 + 0 ≤ _)⟩)
        dsimp only [Pt.U, Pt.locs, Pt.cells, Pt.slots] at X161 l161 y161 z161 st161 hQ161
        subst l161 y161 z161
        obtain ⟨rfl, N161q, e161⟩ := hQ161
        have N161 := Fr.app N141 N161q
        obtain ⟨T162, X162, e162, st162⟩ := getS2 X161 hx hZ hown (host := "") (Or.inl (hw _ (List.mem_of_getElem? (i := 29) rfl))) Via.refl e161 (S_A.ext OX) (g := (mkF m 224 #[.val (.long q1), .second, .val (.long q2), .second, .val (.long q3), .second, .val (.long q4), .second, .val (.int p5), .val (.int m1), .val (.int m2), .val (.int m3), .val (.int m4), .val (.int m5), .val (.int m6), .val (.int m7), .val (.int m8), .val (.int ax0), .val (.int ax1), .val (.int ay0), .val (.int ay1), .val (.int bx0), .val (.int bx1), .val (.int by0), .val (.int by1), .val (.ref ba), .val (.ref bb), .val (.int (p5 &&& (7 : Int32))), .unset] [])) rfl (hb hby at_224)
        obtain ⟨cq163, kq163, q163a, q163b, q163c⟩ := isOf hZ e162 (X_A.ext OX)
        obtain ⟨_, _, ⟨T163, L163, k163, n163⟩, -, X163, ⟨Lc163, hQ163, l163, y163, z163⟩, st163⟩ := X162.virtualBack hx (y := (⟨"com/example/wakeline/wakeline/model/Box", "contains", "(Lcom/example/wakeline/wakeline/model/Box;)Z"⟩ : MethodName)) (z := (⟨"com/example/wakeline/wakeline/model/Box", "contains", "(Lcom/example/wakeline/wakeline/model/Box;)Z"⟩ : MethodName)) hown (mvT hZ (hw _ (List.mem_of_getElem? (i := 31) rfl))) (mvT hZ (hw _ (List.mem_of_getElem? (i := 32) rfl))) (notFace_of_selects (args := #[]) (mvT hZ (hw _ (List.mem_of_getElem? (i := 34) rfl)))) (mvT hZ (hw _ (List.mem_of_getElem? (i := 34) rfl))) (mvT hZ (hw _ (List.mem_of_getElem? (i := 33) rfl))) (by decide) (backOf (W := 0) (rmAK l Z a0 hw [] aA ba ax0 ay0 ax1 ay1 T141.heap n0 Z149 (A0.ext OX) (A1.ext OX) (A2.ext OX) (A3.ext OX) F0_ba_144 F1_ba_145 F2_ba_146 F3_ba_147) hZ (hw _ (List.mem_of_getElem? (i := 35) rfl)) (hw _ (List.mem_of_getElem? (i := 9) rfl)) (by decide) (by decide)) q163a q163c (g := (mkF m 229 #[.val (.long q1), .second, .val (.long q2), .second, .val (.long q3), .second, .val (.long q4), .second, .val (.int p5), .val (.int m1), .val (.int m2), .val (.int m3), .val (.int m4), .val (.int m5), .val (.int m6), .val (.int m7), .val (.int m8), .val (.int ax0), .val (.int ax1), .val (.int ay0), .val (.int ay1), .val (.int bx0), .val (.int bx1), .val (.int by0), .val (.int by1), .val (.ref ba), .val (.ref bb), .val (.int (p5 &&& (7 : Int32))), .unset] [(.ref ba), (.ref aA)])) rfl (by rw [hml]; rfl) (Steps.refl _) (argsL := [(.ref ba)]) (rest := []) (lenOf pd_3 rfl) rfl (by show 2 * 0 + _ ≤ _; exact Nat.le_of_eq rfl) (hb hby at_229) (fun _ _ => ⟨rfl, e162, (by decide : 2 + 0 ≤ _), (by decide : 8 + 0 ≤ _)⟩)
        dsimp only [Pt.U, Pt.locs, Pt.cells, Pt.slots] at X163 l163 y163 z163 st163 hQ163
        subst l163 y163 z163
        obtain ⟨rfl, N163q, e163⟩ := hQ163
        have N163 := Fr.app N161 N163q
        have pre164 : ∀ t_, Steps p.tables e below (T163.setTop (mkF m 240 #[.val (.long q1), .second, .val (.long q2), .second, .val (.long q3), .second, .val (.long q4), .second, .val (.int p5), .val (.int m1), .val (.int m2), .val (.int m3), .val (.int m4), .val (.int m5), .val (.int m6), .val (.int m7), .val (.int m8), .val (.int ax0), .val (.int ax1), .val (.int ay0), .val (.int ay1), .val (.int bx0), .val (.int bx1), .val (.int by0), .val (.int by1), .val (.ref ba), .val (.ref bb), .val (.int (p5 &&& (7 : Int32))), .unset] [(.int (1 : Int32))])) t_ → Steps p.tables e below (s₁.setTop (entryFrame m #[(.long q1), (.long q2), (.long q3), (.long q4), (.int p5)] maxLocals)) t_ := fun t_ k_ => pre159 _ (by
          show Steps p.tables e below (T141.setTop (mkF m 210 #[.val (.long q1), .second, .val (.long q2), .second, .val (.long q3), .second, .val (.long q4), .second, .val (.int p5), .val (.int m1), .val (.int m2), .val (.int m3), .val (.int m4), .val (.int m5), .val (.int m6), .val (.int m7), .val (.int m8), .val (.int ax0), .val (.int ax1), .val (.int ay0), .val (.int ay1), .val (.int bx0), .val (.int bx1), .val (.int by0), .val (.int by1), .val (.ref ba), .val (.ref bb), .val (.int (p5 &&& (7 : Int32))), .unset] [(.int (3 : Int32)), (.int (p5 &&& (7 : Int32)))])) _
          refine XS.icmpNo X141.here hx rfl (hb hby at_210) rfl (teq hk3).2 ?_
          show Steps p.tables e below (T141.setTop (mkF m 213 #[.val (.long q1), .second, .val (.long q2), .second, .val (.long q3), .second, .val (.long q4), .second, .val (.int p5), .val (.int m1), .val (.int m2), .val (.int m3), .val (.int m4), .val (.int m5), .val (.int m6), .val (.int m7), .val (.int m8), .val (.int ax0), .val (.int ax1), .val (.int ay0), .val (.int ay1), .val (.int bx0), .val (.int bx1), .val (.int by0), .val (.int by1), .val (.ref ba), .val (.ref bb), .val (.int (p5 &&& (7 : Int32))), .unset] [])) _
          refine st160 _ ?_
          show Steps p.tables e below (T160.setTop (mkF m 216 #[.val (.long q1), .second, .val (.long q2), .second, .val (.long q3), .second, .val (.long q4), .second, .val (.int p5), .val (.int m1), .val (.int m2), .val (.int m3), .val (.int m4), .val (.int m5), .val (.int m6), .val (.int m7), .val (.int m8), .val (.int ax0), .val (.int ax1), .val (.int ay0), .val (.int ay1), .val (.int bx0), .val (.int bx1), .val (.int by0), .val (.int by1), .val (.ref ba), .val (.ref bb), .val (.int (p5 &&& (7 : Int32))), .unset] [(.ref aA)])) _
          refine XS.aload X160.here hx rfl (hb hby at_216) rfl rfl ?_
          show Steps p.tables e below (T160.setTop (mkF m 218 #[.val (.long q1), .second, .val (.long q2), .second, .val (.long q3), .second, .val (.long q4), .second, .val (.int p5), .val (.int m1), .val (.int m2), .val (.int m3), .val (.int m4), .val (.int m5), .val (.int m6), .val (.int m7), .val (.int m8), .val (.int ax0), .val (.int ax1), .val (.int ay0), .val (.int ay1), .val (.int bx0), .val (.int bx1), .val (.int by0), .val (.int by1), .val (.ref ba), .val (.ref bb), .val (.int (p5 &&& (7 : Int32))), .unset] [(.ref bb), (.ref aA)])) _
          refine st161.trans ?_
          show Steps p.tables e below (T161.setTop (mkF m 221 #[.val (.long q1), .second, .val (.long q2), .second, .val (.long q3), .second, .val (.long q4), .second, .val (.int p5), .val (.int m1), .val (.int m2), .val (.int m3), .val (.int m4), .val (.int m5), .val (.int m6), .val (.int m7), .val (.int m8), .val (.int ax0), .val (.int ax1), .val (.int ay0), .val (.int ay1), .val (.int bx0), .val (.int bx1), .val (.int by0), .val (.int by1), .val (.ref ba), .val (.ref bb), .val (.int (p5 &&& (7 : Int32))), .unset] [(.int (1 : Int32))])) _
          refine XS.ifNo X161.here hx rfl (hb hby at_221) rfl ((if0 _ _).trans (feq (by decide : ¬ (1 : Int32) = 0)).1) ?_
          show Steps p.tables e below (T161.setTop (mkF m 224 #[.val (.long q1), .second, .val (.long q2), .second, .val (.long q3), .second, .val (.long q4), .second, .val (.int p5), .val (.int m1), .val (.int m2), .val (.int m3), .val (.int m4), .val (.int m5), .val (.int m6), .val (.int m7), .val (.int m8), .val (.int ax0), .val (.int ax1), .val (.int ay0), .val (.int ay1), .val (.int bx0), .val (.int bx1), .val (.int by0), .val (.int by1), .val (.ref ba), .val (.ref bb), .val (.int (p5 &&& (7 : Int32))), .unset] [])) _
          refine st162 _ ?_
          show Steps p.tables e below (T162.setTop (mkF m 227 #[.val (.long q1), .second, .val (.long q2), .second, .val (.long q3), .second, .val (.long q4), .second, .val (.int p5), .val (.int m1), .val (.int m2), .val (.int m3), .val (.int m4), .val (.int m5), .val (.int m6), .val (.int m7), .val (.int m8), .val (.int ax0), .val (.int ax1), .val (.int ay0), .val (.int ay1), .val (.int bx0), .val (.int bx1), .val (.int by0), .val (.int by1), .val (.ref ba), .val (.ref bb), .val (.int (p5 &&& (7 : Int32))), .unset] [(.ref aA)])) _
          refine XS.aload X162.here hx rfl (hb hby at_227) rfl rfl ?_
          show Steps p.tables e below (T162.setTop (mkF m 229 #[.val (.long q1), .second, .val (.long q2), .second, .val (.long q3), .second, .val (.long q4), .second, .val (.int p5), .val (.int m1), .val (.int m2), .val (.int m3), .val (.int m4), .val (.int m5), .val (.int m6), .val (.int m7), .val (.int m8), .val (.int ax0), .val (.int ax1), .val (.int ay0), .val (.int ay1), .val (.int bx0), .val (.int bx1), .val (.int by0), .val (.int by1), .val (.ref ba), .val (.ref bb), .val (.int (p5 &&& (7 : Int32))), .unset] [(.ref ba), (.ref aA)])) _
          refine st163.trans ?_
          show Steps p.tables e below (T163.setTop (mkF m 232 #[.val (.long q1), .second, .val (.long q2), .second, .val (.long q3), .second, .val (.long q4), .second, .val (.int p5), .val (.int m1), .val (.int m2), .val (.int m3), .val (.int m4), .val (.int m5), .val (.int m6), .val (.int m7), .val (.int m8), .val (.int ax0), .val (.int ax1), .val (.int ay0), .val (.int ay1), .val (.int bx0), .val (.int bx1), .val (.int by0), .val (.int by1), .val (.ref ba), .val (.ref bb), .val (.int (p5 &&& (7 : Int32))), .unset] [(.int (1 : Int32))])) _
          refine XS.ifNo X163.here hx rfl (hb hby at_232) rfl ((if0 _ _).trans (feq (by decide : ¬ (1 : Int32) = 0)).1) ?_
          show Steps p.tables e below (T163.setTop (mkF m 235 #[.val (.long q1), .second, .val (.long q2), .second, .val (.long q3), .second, .val (.long q4), .second, .val (.int p5), .val (.int m1), .val (.int m2), .val (.int m3), .val (.int m4), .val (.int m5), .val (.int m6), .val (.int m7), .val (.int m8), .val (.int ax0), .val (.int ax1), .val (.int ay0), .val (.int ay1), .val (.int bx0), .val (.int bx1), .val (.int by0), .val (.int by1), .val (.ref ba), .val (.ref bb), .val (.int (p5 &&& (7 : Int32))), .unset] [])) _
          refine XS.iconst X163.here hx rfl (hb hby at_235) ?_
          show Steps p.tables e below (T163.setTop (mkF m 236 #[.val (.long q1), .second, .val (.long q2), .second, .val (.long q3), .second, .val (.long q4), .second, .val (.int p5), .val (.int m1), .val (.int m2), .val (.int m3), .val (.int m4), .val (.int m5), .val (.int m6), .val (.int m7), .val (.int m8), .val (.int ax0), .val (.int ax1), .val (.int ay0), .val (.int ay1), .val (.int bx0), .val (.int bx1), .val (.int by0), .val (.int by1), .val (.ref ba), .val (.ref bb), .val (.int (p5 &&& (7 : Int32))), .unset] [(.int (1 : Int32))])) _
          refine XS.goto X163.here hx rfl (pc0 := 236) (pc' := 240) rfl (hb hby at_236) (by decide) (by decide) ?_
          exact k_)
        obtain ⟨fs, hr, hrun, hended, hW, hsame⟩ := X163.leave (v := some (.int (1 : Int32))) (fun h => by rw [Bd.returns] at h; cases h)
        refine ⟨_, _, pre164 _ ?_, hrun, hended, _, _, rfl, ?_, ⟨_, rfl⟩, hW, hsame.mono (by decide) (by decide)⟩
        · show Steps p.tables e below (T163.setTop (mkF m 240 #[.val (.long q1), .second, .val (.long q2), .second, .val (.long q3), .second, .val (.long q4), .second, .val (.int p5), .val (.int m1), .val (.int m2), .val (.int m3), .val (.int m4), .val (.int m5), .val (.int m6), .val (.int m7), .val (.int m8), .val (.int ax0), .val (.int ax1), .val (.int ay0), .val (.int ay1), .val (.int bx0), .val (.int bx1), .val (.int by0), .val (.int by1), .val (.ref ba), .val (.ref bb), .val (.int (p5 &&& (7 : Int32))), .unset] [(.int (1 : Int32))])) _
          exact retN X163 hx (t := .boolean) Bd.returns (by simp) (hb hby at_240) hr
        · show Qrm0 Z q1 q2 q3 q4 p5 aA aE h0 n0 _ T163.heap _
          rw [e163]
          exact ⟨rfl, N163⟩
      · skip
        obtain ⟨_, _, ⟨T165, L165, k165, n165⟩, -, X165, ⟨Lc165, hQ165, l165, y165, z165⟩, st165⟩ := Jvm.LawKit.callS X141 hx (y := (⟨"com/example/wakeline/wakeline/model/BoxContainsPinLaw", "in", "(IIIIII)Z"⟩ : MethodName)) hown (mvT hZ (hw _ (List.mem_of_getElem? (i := 36) rfl))) (mvT hZ (hw _ (List.mem_of_getElem? (i := 37) rfl))) (mvT hZ (hw _ (List.mem_of_getElem? (i := 38) rfl))) (mvT hZ (hw _ (List.mem_of_getElem? (i := 39) rfl))) (by decide) (backOf (W := 0) (rmIn l Z a0 hw [] ax0 ay0 ax1 ay1 bx0 by0 T141.heap n0 Z149 ) hZ (hw _ (List.mem_of_getElem? (i := 39) rfl)) (hw _ (List.mem_of_getElem? (i := 38) rfl)) (by decide) (by decide)) (g := (mkF m 253 #[.val (.long q1), .second, .val (.long q2), .second, .val (.long q3), .second, .val (.long q4), .second, .val (.int p5), .val (.int m1), .val (.int m2), .val (.int m3), .val (.int m4), .val (.int m5), .val (.int m6), .val (.int m7), .val (.int m8), .val (.int ax0), .val (.int ax1), .val (.int ay0), .val (.int ay1), .val (.int bx0), .val (.int bx1), .val (.int by0), .val (.int by1), .val (.ref ba), .val (.ref bb), .val (.int (p5 &&& (7 : Int32))), .unset] [(.int by0), (.int bx0), (.int ay1), (.int ax1), (.int ay0), (.int ax0)])) rfl (by rw [hml]; rfl) (argsL := [(.int ax0), (.int ay0), (.int ax1), (.int ay1), (.int bx0), (.int by0)]) (rest := []) (lenOf pd_4 rfl) rfl (by show 2 * 0 + _ ≤ _; exact Nat.le_of_eq rfl) (hb hby at_253) (fun _ _ => ⟨rfl, rfl, (by decide : 2 + 0 ≤ _), (by decide : 8 + 0 ≤ _)⟩)
        dsimp only [Pt.U, Pt.locs, Pt.cells, Pt.slots] at X165 l165 y165 z165 st165 hQ165
        subst l165 y165 z165
        obtain ⟨rfl, N165q, e165⟩ := hQ165
        have N165 := Fr.app N141 N165q
        have pre166 : ∀ t_, Steps p.tables e below (T165.setTop (mkF m 256 #[.val (.long q1), .second, .val (.long q2), .second, .val (.long q3), .second, .val (.long q4), .second, .val (.int p5), .val (.int m1), .val (.int m2), .val (.int m3), .val (.int m4), .val (.int m5), .val (.int m6), .val (.int m7), .val (.int m8), .val (.int ax0), .val (.int ax1), .val (.int ay0), .val (.int ay1), .val (.int bx0), .val (.int bx1), .val (.int by0), .val (.int by1), .val (.ref ba), .val (.ref bb), .val (.int (p5 &&& (7 : Int32))), .unset] [(.int (own_in ax0 ay0 ax1 ay1 bx0 by0))])) t_ → Steps p.tables e below (s₁.setTop (entryFrame m #[(.long q1), (.long q2), (.long q3), (.long q4), (.int p5)] maxLocals)) t_ := fun t_ k_ => pre159 _ (by
          show Steps p.tables e below (T141.setTop (mkF m 210 #[.val (.long q1), .second, .val (.long q2), .second, .val (.long q3), .second, .val (.long q4), .second, .val (.int p5), .val (.int m1), .val (.int m2), .val (.int m3), .val (.int m4), .val (.int m5), .val (.int m6), .val (.int m7), .val (.int m8), .val (.int ax0), .val (.int ax1), .val (.int ay0), .val (.int ay1), .val (.int bx0), .val (.int bx1), .val (.int by0), .val (.int by1), .val (.ref ba), .val (.ref bb), .val (.int (p5 &&& (7 : Int32))), .unset] [(.int (3 : Int32)), (.int (p5 &&& (7 : Int32)))])) _
          refine XS.icmpYes X141.here hx rfl (pc0 := 210) (pc' := 241) rfl (hb hby at_210) rfl (feq hk3).2 (by decide) (by decide) ?_
          show Steps p.tables e below (T141.setTop (mkF m 241 #[.val (.long q1), .second, .val (.long q2), .second, .val (.long q3), .second, .val (.long q4), .second, .val (.int p5), .val (.int m1), .val (.int m2), .val (.int m3), .val (.int m4), .val (.int m5), .val (.int m6), .val (.int m7), .val (.int m8), .val (.int ax0), .val (.int ax1), .val (.int ay0), .val (.int ay1), .val (.int bx0), .val (.int bx1), .val (.int by0), .val (.int by1), .val (.ref ba), .val (.ref bb), .val (.int (p5 &&& (7 : Int32))), .unset] [])) _
          refine XS.iload X141.here hx rfl (hb hby at_241) rfl ?_
          show Steps p.tables e below (T141.setTop (mkF m 243 #[.val (.long q1), .second, .val (.long q2), .second, .val (.long q3), .second, .val (.long q4), .second, .val (.int p5), .val (.int m1), .val (.int m2), .val (.int m3), .val (.int m4), .val (.int m5), .val (.int m6), .val (.int m7), .val (.int m8), .val (.int ax0), .val (.int ax1), .val (.int ay0), .val (.int ay1), .val (.int bx0), .val (.int bx1), .val (.int by0), .val (.int by1), .val (.ref ba), .val (.ref bb), .val (.int (p5 &&& (7 : Int32))), .unset] [(.int ax0)])) _
          refine XS.iload X141.here hx rfl (hb hby at_243) rfl ?_
          show Steps p.tables e below (T141.setTop (mkF m 245 #[.val (.long q1), .second, .val (.long q2), .second, .val (.long q3), .second, .val (.long q4), .second, .val (.int p5), .val (.int m1), .val (.int m2), .val (.int m3), .val (.int m4), .val (.int m5), .val (.int m6), .val (.int m7), .val (.int m8), .val (.int ax0), .val (.int ax1), .val (.int ay0), .val (.int ay1), .val (.int bx0), .val (.int bx1), .val (.int by0), .val (.int by1), .val (.ref ba), .val (.ref bb), .val (.int (p5 &&& (7 : Int32))), .unset] [(.int ay0), (.int ax0)])) _
          refine XS.iload X141.here hx rfl (hb hby at_245) rfl ?_
          show Steps p.tables e below (T141.setTop (mkF m 247 #[.val (.long q1), .second, .val (.long q2), .second, .val (.long q3), .second, .val (.long q4), .second, .val (.int p5), .val (.int m1), .val (.int m2), .val (.int m3), .val (.int m4), .val (.int m5), .val (.int m6), .val (.int m7), .val (.int m8), .val (.int ax0), .val (.int ax1), .val (.int ay0), .val (.int ay1), .val (.int bx0), .val (.int bx1), .val (.int by0), .val (.int by1), .val (.ref ba), .val (.ref bb), .val (.int (p5 &&& (7 : Int32))), .unset] [(.int ax1), (.int ay0), (.int ax0)])) _
          refine XS.iload X141.here hx rfl (hb hby at_247) rfl ?_
          show Steps p.tables e below (T141.setTop (mkF m 249 #[.val (.long q1), .second, .val (.long q2), .second, .val (.long q3), .second, .val (.long q4), .second, .val (.int p5), .val (.int m1), .val (.int m2), .val (.int m3), .val (.int m4), .val (.int m5), .val (.int m6), .val (.int m7), .val (.int m8), .val (.int ax0), .val (.int ax1), .val (.int ay0), .val (.int ay1), .val (.int bx0), .val (.int bx1), .val (.int by0), .val (.int by1), .val (.ref ba), .val (.ref bb), .val (.int (p5 &&& (7 : Int32))), .unset] [(.int ay1), (.int ax1), (.int ay0), (.int ax0)])) _
          refine XS.iload X141.here hx rfl (hb hby at_249) rfl ?_
          show Steps p.tables e below (T141.setTop (mkF m 251 #[.val (.long q1), .second, .val (.long q2), .second, .val (.long q3), .second, .val (.long q4), .second, .val (.int p5), .val (.int m1), .val (.int m2), .val (.int m3), .val (.int m4), .val (.int m5), .val (.int m6), .val (.int m7), .val (.int m8), .val (.int ax0), .val (.int ax1), .val (.int ay0), .val (.int ay1), .val (.int bx0), .val (.int bx1), .val (.int by0), .val (.int by1), .val (.ref ba), .val (.ref bb), .val (.int (p5 &&& (7 : Int32))), .unset] [(.int bx0), (.int ay1), (.int ax1), (.int ay0), (.int ax0)])) _
          refine XS.iload X141.here hx rfl (hb hby at_251) rfl ?_
          show Steps p.tables e below (T141.setTop (mkF m 253 #[.val (.long q1), .second, .val (.long q2), .second, .val (.long q3), .second, .val (.long q4), .second, .val (.int p5), .val (.int m1), .val (.int m2), .val (.int m3), .val (.int m4), .val (.int m5), .val (.int m6), .val (.int m7), .val (.int m8), .val (.int ax0), .val (.int ax1), .val (.int ay0), .val (.int ay1), .val (.int bx0), .val (.int bx1), .val (.int by0), .val (.int by1), .val (.ref ba), .val (.ref bb), .val (.int (p5 &&& (7 : Int32))), .unset] [(.int by0), (.int bx0), (.int ay1), (.int ax1), (.int ay0), (.int ax0)])) _
          refine st165 _ ?_
          exact k_)
        by_cases hc1 : (own_in ax0 ay0 ax1 ay1 bx0 by0) = (0 : Int32)
        · skip
          obtain ⟨cq167, kq167, q167a, q167b, q167c⟩ := isOf hZ e165 E_ba_143
          obtain ⟨_, _, ⟨T167, L167, k167, n167⟩, -, X167, ⟨Lc167, hQ167, l167, y167, z167⟩, st167⟩ := X165.virtualBack hx (y := (⟨"com/example/wakeline/wakeline/model/Box", "contains", "(Lcom/example/wakeline/wakeline/model/Box;)Z"⟩ : MethodName)) (z := (⟨"com/example/wakeline/wakeline/model/Box", "contains", "(Lcom/example/wakeline/wakeline/model/Box;)Z"⟩ : MethodName)) hown (mvT hZ (hw _ (List.mem_of_getElem? (i := 31) rfl))) (mvT hZ (hw _ (List.mem_of_getElem? (i := 32) rfl))) (notFace_of_selects (args := #[]) (mvT hZ (hw _ (List.mem_of_getElem? (i := 34) rfl)))) (mvT hZ (hw _ (List.mem_of_getElem? (i := 34) rfl))) (mvT hZ (hw _ (List.mem_of_getElem? (i := 33) rfl))) (by decide) (backOf (W := 0) (rmK l Z a0 hw [] ba bb ax0 ay0 ax1 ay1 bx0 by0 bx1 by1 T141.heap n0 Z149 F0_ba_144 F1_ba_145 F2_ba_146 F3_ba_147 F0141 F1141 F2141 F3141) hZ (hw _ (List.mem_of_getElem? (i := 35) rfl)) (hw _ (List.mem_of_getElem? (i := 9) rfl)) (by decide) (by decide)) q167a q167c (g := (mkF m 288 #[.val (.long q1), .second, .val (.long q2), .second, .val (.long q3), .second, .val (.long q4), .second, .val (.int p5), .val (.int m1), .val (.int m2), .val (.int m3), .val (.int m4), .val (.int m5), .val (.int m6), .val (.int m7), .val (.int m8), .val (.int ax0), .val (.int ax1), .val (.int ay0), .val (.int ay1), .val (.int bx0), .val (.int bx1), .val (.int by0), .val (.int by1), .val (.ref ba), .val (.ref bb), .val (.int (p5 &&& (7 : Int32))), .val (.int (0 : Int32))] [(.ref bb), (.ref ba)])) rfl (by rw [hml]; rfl) (Steps.refl _) (argsL := [(.ref bb)]) (rest := []) (lenOf pd_3 rfl) rfl (by show 2 * 0 + _ ≤ _; exact Nat.le_of_eq rfl) (hb hby at_288) (fun _ _ => ⟨rfl, e165, (by decide : 2 + 0 ≤ _), (by decide : 8 + 0 ≤ _)⟩)
          dsimp only [Pt.U, Pt.locs, Pt.cells, Pt.slots] at X167 l167 y167 z167 st167 hQ167
          subst l167 y167 z167
          obtain ⟨rfl, N167q, e167⟩ := hQ167
          have N167 := Fr.app N165 N167q
          have pre168 : ∀ t_, Steps p.tables e below (T167.setTop (mkF m 301 #[.val (.long q1), .second, .val (.long q2), .second, .val (.long q3), .second, .val (.long q4), .second, .val (.int p5), .val (.int m1), .val (.int m2), .val (.int m3), .val (.int m4), .val (.int m5), .val (.int m6), .val (.int m7), .val (.int m8), .val (.int ax0), .val (.int ax1), .val (.int ay0), .val (.int ay1), .val (.int bx0), .val (.int bx1), .val (.int by0), .val (.int by1), .val (.ref ba), .val (.ref bb), .val (.int (p5 &&& (7 : Int32))), .val (.int (0 : Int32))] [(.int (1 : Int32))])) t_ → Steps p.tables e below (s₁.setTop (entryFrame m #[(.long q1), (.long q2), (.long q3), (.long q4), (.int p5)] maxLocals)) t_ := fun t_ k_ => pre166 _ (by
            show Steps p.tables e below (T165.setTop (mkF m 256 #[.val (.long q1), .second, .val (.long q2), .second, .val (.long q3), .second, .val (.long q4), .second, .val (.int p5), .val (.int m1), .val (.int m2), .val (.int m3), .val (.int m4), .val (.int m5), .val (.int m6), .val (.int m7), .val (.int m8), .val (.int ax0), .val (.int ax1), .val (.int ay0), .val (.int ay1), .val (.int bx0), .val (.int bx1), .val (.int by0), .val (.int by1), .val (.ref ba), .val (.ref bb), .val (.int (p5 &&& (7 : Int32))), .unset] [(.int (own_in ax0 ay0 ax1 ay1 bx0 by0))])) _
            refine XS.ifYes X165.here hx rfl (pc0 := 256) (pc' := 281) rfl (hb hby at_256) rfl ((if0 _ _).trans (teq hc1).1) (by decide) (by decide) ?_
            show Steps p.tables e below (T165.setTop (mkF m 281 #[.val (.long q1), .second, .val (.long q2), .second, .val (.long q3), .second, .val (.long q4), .second, .val (.int p5), .val (.int m1), .val (.int m2), .val (.int m3), .val (.int m4), .val (.int m5), .val (.int m6), .val (.int m7), .val (.int m8), .val (.int ax0), .val (.int ax1), .val (.int ay0), .val (.int ay1), .val (.int bx0), .val (.int bx1), .val (.int by0), .val (.int by1), .val (.ref ba), .val (.ref bb), .val (.int (p5 &&& (7 : Int32))), .unset] [])) _
            refine XS.iconst X165.here hx rfl (hb hby at_281) ?_
            show Steps p.tables e below (T165.setTop (mkF m 282 #[.val (.long q1), .second, .val (.long q2), .second, .val (.long q3), .second, .val (.long q4), .second, .val (.int p5), .val (.int m1), .val (.int m2), .val (.int m3), .val (.int m4), .val (.int m5), .val (.int m6), .val (.int m7), .val (.int m8), .val (.int ax0), .val (.int ax1), .val (.int ay0), .val (.int ay1), .val (.int bx0), .val (.int bx1), .val (.int by0), .val (.int by1), .val (.ref ba), .val (.ref bb), .val (.int (p5 &&& (7 : Int32))), .unset] [(.int (0 : Int32))])) _
            refine XS.istore X165.here hx rfl (hb hby at_282) rfl (l' := #[.val (.long q1), .second, .val (.long q2), .second, .val (.long q3), .second, .val (.long q4), .second, .val (.int p5), .val (.int m1), .val (.int m2), .val (.int m3), .val (.int m4), .val (.int m5), .val (.int m6), .val (.int m7), .val (.int m8), .val (.int ax0), .val (.int ax1), .val (.int ay0), .val (.int ay1), .val (.int bx0), .val (.int bx1), .val (.int by0), .val (.int by1), .val (.ref ba), .val (.ref bb), .val (.int (p5 &&& (7 : Int32))), .val (.int (0 : Int32))]) rfl ?_
            show Steps p.tables e below (T165.setTop (mkF m 284 #[.val (.long q1), .second, .val (.long q2), .second, .val (.long q3), .second, .val (.long q4), .second, .val (.int p5), .val (.int m1), .val (.int m2), .val (.int m3), .val (.int m4), .val (.int m5), .val (.int m6), .val (.int m7), .val (.int m8), .val (.int ax0), .val (.int ax1), .val (.int ay0), .val (.int ay1), .val (.int bx0), .val (.int bx1), .val (.int by0), .val (.int by1), .val (.ref ba), .val (.ref bb), .val (.int (p5 &&& (7 : Int32))), .val (.int (0 : Int32))] [])) _
            refine XS.aload X165.here hx rfl (hb hby at_284) rfl rfl ?_
            show Steps p.tables e below (T165.setTop (mkF m 286 #[.val (.long q1), .second, .val (.long q2), .second, .val (.long q3), .second, .val (.long q4), .second, .val (.int p5), .val (.int m1), .val (.int m2), .val (.int m3), .val (.int m4), .val (.int m5), .val (.int m6), .val (.int m7), .val (.int m8), .val (.int ax0), .val (.int ax1), .val (.int ay0), .val (.int ay1), .val (.int bx0), .val (.int bx1), .val (.int by0), .val (.int by1), .val (.ref ba), .val (.ref bb), .val (.int (p5 &&& (7 : Int32))), .val (.int (0 : Int32))] [(.ref ba)])) _
            refine XS.aload X165.here hx rfl (hb hby at_286) rfl rfl ?_
            show Steps p.tables e below (T165.setTop (mkF m 288 #[.val (.long q1), .second, .val (.long q2), .second, .val (.long q3), .second, .val (.long q4), .second, .val (.int p5), .val (.int m1), .val (.int m2), .val (.int m3), .val (.int m4), .val (.int m5), .val (.int m6), .val (.int m7), .val (.int m8), .val (.int ax0), .val (.int ax1), .val (.int ay0), .val (.int ay1), .val (.int bx0), .val (.int bx1), .val (.int by0), .val (.int by1), .val (.ref ba), .val (.ref bb), .val (.int (p5 &&& (7 : Int32))), .val (.int (0 : Int32))] [(.ref bb), (.ref ba)])) _
            refine st167.trans ?_
            show Steps p.tables e below (T167.setTop (mkF m 291 #[.val (.long q1), .second, .val (.long q2), .second, .val (.long q3), .second, .val (.long q4), .second, .val (.int p5), .val (.int m1), .val (.int m2), .val (.int m3), .val (.int m4), .val (.int m5), .val (.int m6), .val (.int m7), .val (.int m8), .val (.int ax0), .val (.int ax1), .val (.int ay0), .val (.int ay1), .val (.int bx0), .val (.int bx1), .val (.int by0), .val (.int by1), .val (.ref ba), .val (.ref bb), .val (.int (p5 &&& (7 : Int32))), .val (.int (0 : Int32))] [(.int (own_cont ax0 ay0 ax1 ay1 bx0 by0 bx1 by1))])) _
            refine XS.iload X167.here hx rfl (hb hby at_291) rfl ?_
            show Steps p.tables e below (T167.setTop (mkF m 293 #[.val (.long q1), .second, .val (.long q2), .second, .val (.long q3), .second, .val (.long q4), .second, .val (.int p5), .val (.int m1), .val (.int m2), .val (.int m3), .val (.int m4), .val (.int m5), .val (.int m6), .val (.int m7), .val (.int m8), .val (.int ax0), .val (.int ax1), .val (.int ay0), .val (.int ay1), .val (.int bx0), .val (.int bx1), .val (.int by0), .val (.int by1), .val (.ref ba), .val (.ref bb), .val (.int (p5 &&& (7 : Int32))), .val (.int (0 : Int32))] [(.int (0 : Int32)), (.int (own_cont ax0 ay0 ax1 ay1 bx0 by0 bx1 by1))])) _
            refine XS.icmpNo X167.here hx rfl (hb hby at_293) rfl (teq (own_c1 o_bx o_by hc1)).2 ?_
            show Steps p.tables e below (T167.setTop (mkF m 296 #[.val (.long q1), .second, .val (.long q2), .second, .val (.long q3), .second, .val (.long q4), .second, .val (.int p5), .val (.int m1), .val (.int m2), .val (.int m3), .val (.int m4), .val (.int m5), .val (.int m6), .val (.int m7), .val (.int m8), .val (.int ax0), .val (.int ax1), .val (.int ay0), .val (.int ay1), .val (.int bx0), .val (.int bx1), .val (.int by0), .val (.int by1), .val (.ref ba), .val (.ref bb), .val (.int (p5 &&& (7 : Int32))), .val (.int (0 : Int32))] [])) _
            refine XS.iconst X167.here hx rfl (hb hby at_296) ?_
            show Steps p.tables e below (T167.setTop (mkF m 297 #[.val (.long q1), .second, .val (.long q2), .second, .val (.long q3), .second, .val (.long q4), .second, .val (.int p5), .val (.int m1), .val (.int m2), .val (.int m3), .val (.int m4), .val (.int m5), .val (.int m6), .val (.int m7), .val (.int m8), .val (.int ax0), .val (.int ax1), .val (.int ay0), .val (.int ay1), .val (.int bx0), .val (.int bx1), .val (.int by0), .val (.int by1), .val (.ref ba), .val (.ref bb), .val (.int (p5 &&& (7 : Int32))), .val (.int (0 : Int32))] [(.int (1 : Int32))])) _
            refine XS.goto X167.here hx rfl (pc0 := 297) (pc' := 301) rfl (hb hby at_297) (by decide) (by decide) ?_
            exact k_)
          obtain ⟨fs, hr, hrun, hended, hW, hsame⟩ := X167.leave (v := some (.int (1 : Int32))) (fun h => by rw [Bd.returns] at h; cases h)
          refine ⟨_, _, pre168 _ ?_, hrun, hended, _, _, rfl, ?_, ⟨_, rfl⟩, hW, hsame.mono (by decide) (by decide)⟩
          · show Steps p.tables e below (T167.setTop (mkF m 301 #[.val (.long q1), .second, .val (.long q2), .second, .val (.long q3), .second, .val (.long q4), .second, .val (.int p5), .val (.int m1), .val (.int m2), .val (.int m3), .val (.int m4), .val (.int m5), .val (.int m6), .val (.int m7), .val (.int m8), .val (.int ax0), .val (.int ax1), .val (.int ay0), .val (.int ay1), .val (.int bx0), .val (.int bx1), .val (.int by0), .val (.int by1), .val (.ref ba), .val (.ref bb), .val (.int (p5 &&& (7 : Int32))), .val (.int (0 : Int32))] [(.int (1 : Int32))])) _
            exact retN X167 hx (t := .boolean) Bd.returns (by simp) (hb hby at_301) hr
          · show Qrm0 Z q1 q2 q3 q4 p5 aA aE h0 n0 _ T167.heap _
            rw [e167]
            exact ⟨rfl, N167⟩
        · skip
          obtain ⟨_, _, ⟨T169, L169, k169, n169⟩, -, X169, ⟨Lc169, hQ169, l169, y169, z169⟩, st169⟩ := Jvm.LawKit.callS X165 hx (y := (⟨"com/example/wakeline/wakeline/model/BoxContainsPinLaw", "in", "(IIIIII)Z"⟩ : MethodName)) hown (mvT hZ (hw _ (List.mem_of_getElem? (i := 36) rfl))) (mvT hZ (hw _ (List.mem_of_getElem? (i := 37) rfl))) (mvT hZ (hw _ (List.mem_of_getElem? (i := 38) rfl))) (mvT hZ (hw _ (List.mem_of_getElem? (i := 39) rfl))) (by decide) (backOf (W := 0) (rmIn l Z a0 hw [] ax0 ay0 ax1 ay1 bx1 by1 T141.heap n0 Z149 ) hZ (hw _ (List.mem_of_getElem? (i := 39) rfl)) (hw _ (List.mem_of_getElem? (i := 38) rfl)) (by decide) (by decide)) (g := (mkF m 271 #[.val (.long q1), .second, .val (.long q2), .second, .val (.long q3), .second, .val (.long q4), .second, .val (.int p5), .val (.int m1), .val (.int m2), .val (.int m3), .val (.int m4), .val (.int m5), .val (.int m6), .val (.int m7), .val (.int m8), .val (.int ax0), .val (.int ax1), .val (.int ay0), .val (.int ay1), .val (.int bx0), .val (.int bx1), .val (.int by0), .val (.int by1), .val (.ref ba), .val (.ref bb), .val (.int (p5 &&& (7 : Int32))), .unset] [(.int by1), (.int bx1), (.int ay1), (.int ax1), (.int ay0), (.int ax0)])) rfl (by rw [hml]; rfl) (argsL := [(.int ax0), (.int ay0), (.int ax1), (.int ay1), (.int bx1), (.int by1)]) (rest := []) (lenOf pd_4 rfl) rfl (by show 2 * 0 + _ ≤ _; exact Nat.le_of_eq rfl) (hb hby at_271) (fun _ _ => ⟨rfl, e165, (by decide : 2 + 0 ≤ _), (by decide : 8 + 0 ≤ _)⟩)
          dsimp only [Pt.U, Pt.locs, Pt.cells, Pt.slots] at X169 l169 y169 z169 st169 hQ169
          subst l169 y169 z169
          obtain ⟨rfl, N169q, e169⟩ := hQ169
          have N169 := Fr.app N165 N169q
          have pre170 : ∀ t_, Steps p.tables e below (T169.setTop (mkF m 274 #[.val (.long q1), .second, .val (.long q2), .second, .val (.long q3), .second, .val (.long q4), .second, .val (.int p5), .val (.int m1), .val (.int m2), .val (.int m3), .val (.int m4), .val (.int m5), .val (.int m6), .val (.int m7), .val (.int m8), .val (.int ax0), .val (.int ax1), .val (.int ay0), .val (.int ay1), .val (.int bx0), .val (.int bx1), .val (.int by0), .val (.int by1), .val (.ref ba), .val (.ref bb), .val (.int (p5 &&& (7 : Int32))), .unset] [(.int (own_in ax0 ay0 ax1 ay1 bx1 by1))])) t_ → Steps p.tables e below (s₁.setTop (entryFrame m #[(.long q1), (.long q2), (.long q3), (.long q4), (.int p5)] maxLocals)) t_ := fun t_ k_ => pre166 _ (by
            show Steps p.tables e below (T165.setTop (mkF m 256 #[.val (.long q1), .second, .val (.long q2), .second, .val (.long q3), .second, .val (.long q4), .second, .val (.int p5), .val (.int m1), .val (.int m2), .val (.int m3), .val (.int m4), .val (.int m5), .val (.int m6), .val (.int m7), .val (.int m8), .val (.int ax0), .val (.int ax1), .val (.int ay0), .val (.int ay1), .val (.int bx0), .val (.int bx1), .val (.int by0), .val (.int by1), .val (.ref ba), .val (.ref bb), .val (.int (p5 &&& (7 : Int32))), .unset] [(.int (own_in ax0 ay0 ax1 ay1 bx0 by0))])) _
            refine XS.ifNo X165.here hx rfl (hb hby at_256) rfl ((if0 _ _).trans (feq hc1).1) ?_
            show Steps p.tables e below (T165.setTop (mkF m 259 #[.val (.long q1), .second, .val (.long q2), .second, .val (.long q3), .second, .val (.long q4), .second, .val (.int p5), .val (.int m1), .val (.int m2), .val (.int m3), .val (.int m4), .val (.int m5), .val (.int m6), .val (.int m7), .val (.int m8), .val (.int ax0), .val (.int ax1), .val (.int ay0), .val (.int ay1), .val (.int bx0), .val (.int bx1), .val (.int by0), .val (.int by1), .val (.ref ba), .val (.ref bb), .val (.int (p5 &&& (7 : Int32))), .unset] [])) _
            refine XS.iload X165.here hx rfl (hb hby at_259) rfl ?_
            show Steps p.tables e below (T165.setTop (mkF m 261 #[.val (.long q1), .second, .val (.long q2), .second, .val (.long q3), .second, .val (.long q4), .second, .val (.int p5), .val (.int m1), .val (.int m2), .val (.int m3), .val (.int m4), .val (.int m5), .val (.int m6), .val (.int m7), .val (.int m8), .val (.int ax0), .val (.int ax1), .val (.int ay0), .val (.int ay1), .val (.int bx0), .val (.int bx1), .val (.int by0), .val (.int by1), .val (.ref ba), .val (.ref bb), .val (.int (p5 &&& (7 : Int32))), .unset] [(.int ax0)])) _
            refine XS.iload X165.here hx rfl (hb hby at_261) rfl ?_
            show Steps p.tables e below (T165.setTop (mkF m 263 #[.val (.long q1), .second, .val (.long q2), .second, .val (.long q3), .second, .val (.long q4), .second, .val (.int p5), .val (.int m1), .val (.int m2), .val (.int m3), .val (.int m4), .val (.int m5), .val (.int m6), .val (.int m7), .val (.int m8), .val (.int ax0), .val (.int ax1), .val (.int ay0), .val (.int ay1), .val (.int bx0), .val (.int bx1), .val (.int by0), .val (.int by1), .val (.ref ba), .val (.ref bb), .val (.int (p5 &&& (7 : Int32))), .unset] [(.int ay0), (.int ax0)])) _
            refine XS.iload X165.here hx rfl (hb hby at_263) rfl ?_
            show Steps p.tables e below (T165.setTop (mkF m 265 #[.val (.long q1), .second, .val (.long q2), .second, .val (.long q3), .second, .val (.long q4), .second, .val (.int p5), .val (.int m1), .val (.int m2), .val (.int m3), .val (.int m4), .val (.int m5), .val (.int m6), .val (.int m7), .val (.int m8), .val (.int ax0), .val (.int ax1), .val (.int ay0), .val (.int ay1), .val (.int bx0), .val (.int bx1), .val (.int by0), .val (.int by1), .val (.ref ba), .val (.ref bb), .val (.int (p5 &&& (7 : Int32))), .unset] [(.int ax1), (.int ay0), (.int ax0)])) _
            refine XS.iload X165.here hx rfl (hb hby at_265) rfl ?_
            show Steps p.tables e below (T165.setTop (mkF m 267 #[.val (.long q1), .second, .val (.long q2), .second, .val (.long q3), .second, .val (.long q4), .second, .val (.int p5), .val (.int m1), .val (.int m2), .val (.int m3), .val (.int m4), .val (.int m5), .val (.int m6), .val (.int m7), .val (.int m8), .val (.int ax0), .val (.int ax1), .val (.int ay0), .val (.int ay1), .val (.int bx0), .val (.int bx1), .val (.int by0), .val (.int by1), .val (.ref ba), .val (.ref bb), .val (.int (p5 &&& (7 : Int32))), .unset] [(.int ay1), (.int ax1), (.int ay0), (.int ax0)])) _
            refine XS.iload X165.here hx rfl (hb hby at_267) rfl ?_
            show Steps p.tables e below (T165.setTop (mkF m 269 #[.val (.long q1), .second, .val (.long q2), .second, .val (.long q3), .second, .val (.long q4), .second, .val (.int p5), .val (.int m1), .val (.int m2), .val (.int m3), .val (.int m4), .val (.int m5), .val (.int m6), .val (.int m7), .val (.int m8), .val (.int ax0), .val (.int ax1), .val (.int ay0), .val (.int ay1), .val (.int bx0), .val (.int bx1), .val (.int by0), .val (.int by1), .val (.ref ba), .val (.ref bb), .val (.int (p5 &&& (7 : Int32))), .unset] [(.int bx1), (.int ay1), (.int ax1), (.int ay0), (.int ax0)])) _
            refine XS.iload X165.here hx rfl (hb hby at_269) rfl ?_
            show Steps p.tables e below (T165.setTop (mkF m 271 #[.val (.long q1), .second, .val (.long q2), .second, .val (.long q3), .second, .val (.long q4), .second, .val (.int p5), .val (.int m1), .val (.int m2), .val (.int m3), .val (.int m4), .val (.int m5), .val (.int m6), .val (.int m7), .val (.int m8), .val (.int ax0), .val (.int ax1), .val (.int ay0), .val (.int ay1), .val (.int bx0), .val (.int bx1), .val (.int by0), .val (.int by1), .val (.ref ba), .val (.ref bb), .val (.int (p5 &&& (7 : Int32))), .unset] [(.int by1), (.int bx1), (.int ay1), (.int ax1), (.int ay0), (.int ax0)])) _
            refine st169 _ ?_
            exact k_)
          by_cases hc2 : (own_in ax0 ay0 ax1 ay1 bx1 by1) = (0 : Int32)
          · skip
            obtain ⟨cq171, kq171, q171a, q171b, q171c⟩ := isOf hZ e169 E_ba_143
            obtain ⟨_, _, ⟨T171, L171, k171, n171⟩, -, X171, ⟨Lc171, hQ171, l171, y171, z171⟩, st171⟩ := X169.virtualBack hx (y := (⟨"com/example/wakeline/wakeline/model/Box", "contains", "(Lcom/example/wakeline/wakeline/model/Box;)Z"⟩ : MethodName)) (z := (⟨"com/example/wakeline/wakeline/model/Box", "contains", "(Lcom/example/wakeline/wakeline/model/Box;)Z"⟩ : MethodName)) hown (mvT hZ (hw _ (List.mem_of_getElem? (i := 31) rfl))) (mvT hZ (hw _ (List.mem_of_getElem? (i := 32) rfl))) (notFace_of_selects (args := #[]) (mvT hZ (hw _ (List.mem_of_getElem? (i := 34) rfl)))) (mvT hZ (hw _ (List.mem_of_getElem? (i := 34) rfl))) (mvT hZ (hw _ (List.mem_of_getElem? (i := 33) rfl))) (by decide) (backOf (W := 0) (rmK l Z a0 hw [] ba bb ax0 ay0 ax1 ay1 bx0 by0 bx1 by1 T141.heap n0 Z149 F0_ba_144 F1_ba_145 F2_ba_146 F3_ba_147 F0141 F1141 F2141 F3141) hZ (hw _ (List.mem_of_getElem? (i := 35) rfl)) (hw _ (List.mem_of_getElem? (i := 9) rfl)) (by decide) (by decide)) q171a q171c (g := (mkF m 288 #[.val (.long q1), .second, .val (.long q2), .second, .val (.long q3), .second, .val (.long q4), .second, .val (.int p5), .val (.int m1), .val (.int m2), .val (.int m3), .val (.int m4), .val (.int m5), .val (.int m6), .val (.int m7), .val (.int m8), .val (.int ax0), .val (.int ax1), .val (.int ay0), .val (.int ay1), .val (.int bx0), .val (.int bx1), .val (.int by0), .val (.int by1), .val (.ref ba), .val (.ref bb), .val (.int (p5 &&& (7 : Int32))), .val (.int (0 : Int32))] [(.ref bb), (.ref ba)])) rfl (by rw [hml]; rfl) (Steps.refl _) (argsL := [(.ref bb)]) (rest := []) (lenOf pd_3 rfl) rfl (by show 2 * 0 + _ ≤ _; exact Nat.le_of_eq rfl) (hb hby at_288) (fun _ _ => ⟨rfl, e169, (by decide : 2 + 0 ≤ _), (by decide : 8 + 0 ≤ _)⟩)
            dsimp only [Pt.U, Pt.locs, Pt.cells, Pt.slots] at X171 l171 y171 z171 st171 hQ171
            subst l171 y171 z171
            obtain ⟨rfl, N171q, e171⟩ := hQ171
            have N171 := Fr.app N169 N171q
            have pre172 : ∀ t_, Steps p.tables e below (T171.setTop (mkF m 301 #[.val (.long q1), .second, .val (.long q2), .second, .val (.long q3), .second, .val (.long q4), .second, .val (.int p5), .val (.int m1), .val (.int m2), .val (.int m3), .val (.int m4), .val (.int m5), .val (.int m6), .val (.int m7), .val (.int m8), .val (.int ax0), .val (.int ax1), .val (.int ay0), .val (.int ay1), .val (.int bx0), .val (.int bx1), .val (.int by0), .val (.int by1), .val (.ref ba), .val (.ref bb), .val (.int (p5 &&& (7 : Int32))), .val (.int (0 : Int32))] [(.int (1 : Int32))])) t_ → Steps p.tables e below (s₁.setTop (entryFrame m #[(.long q1), (.long q2), (.long q3), (.long q4), (.int p5)] maxLocals)) t_ := fun t_ k_ => pre170 _ (by
              show Steps p.tables e below (T169.setTop (mkF m 274 #[.val (.long q1), .second, .val (.long q2), .second, .val (.long q3), .second, .val (.long q4), .second, .val (.int p5), .val (.int m1), .val (.int m2), .val (.int m3), .val (.int m4), .val (.int m5), .val (.int m6), .val (.int m7), .val (.int m8), .val (.int ax0), .val (.int ax1), .val (.int ay0), .val (.int ay1), .val (.int bx0), .val (.int bx1), .val (.int by0), .val (.int by1), .val (.ref ba), .val (.ref bb), .val (.int (p5 &&& (7 : Int32))), .unset] [(.int (own_in ax0 ay0 ax1 ay1 bx1 by1))])) _
              refine XS.ifYes X169.here hx rfl (pc0 := 274) (pc' := 281) rfl (hb hby at_274) rfl ((if0 _ _).trans (teq hc2).1) (by decide) (by decide) ?_
              show Steps p.tables e below (T169.setTop (mkF m 281 #[.val (.long q1), .second, .val (.long q2), .second, .val (.long q3), .second, .val (.long q4), .second, .val (.int p5), .val (.int m1), .val (.int m2), .val (.int m3), .val (.int m4), .val (.int m5), .val (.int m6), .val (.int m7), .val (.int m8), .val (.int ax0), .val (.int ax1), .val (.int ay0), .val (.int ay1), .val (.int bx0), .val (.int bx1), .val (.int by0), .val (.int by1), .val (.ref ba), .val (.ref bb), .val (.int (p5 &&& (7 : Int32))), .unset] [])) _
              refine XS.iconst X169.here hx rfl (hb hby at_281) ?_
              show Steps p.tables e below (T169.setTop (mkF m 282 #[.val (.long q1), .second, .val (.long q2), .second, .val (.long q3), .second, .val (.long q4), .second, .val (.int p5), .val (.int m1), .val (.int m2), .val (.int m3), .val (.int m4), .val (.int m5), .val (.int m6), .val (.int m7), .val (.int m8), .val (.int ax0), .val (.int ax1), .val (.int ay0), .val (.int ay1), .val (.int bx0), .val (.int bx1), .val (.int by0), .val (.int by1), .val (.ref ba), .val (.ref bb), .val (.int (p5 &&& (7 : Int32))), .unset] [(.int (0 : Int32))])) _
              refine XS.istore X169.here hx rfl (hb hby at_282) rfl (l' := #[.val (.long q1), .second, .val (.long q2), .second, .val (.long q3), .second, .val (.long q4), .second, .val (.int p5), .val (.int m1), .val (.int m2), .val (.int m3), .val (.int m4), .val (.int m5), .val (.int m6), .val (.int m7), .val (.int m8), .val (.int ax0), .val (.int ax1), .val (.int ay0), .val (.int ay1), .val (.int bx0), .val (.int bx1), .val (.int by0), .val (.int by1), .val (.ref ba), .val (.ref bb), .val (.int (p5 &&& (7 : Int32))), .val (.int (0 : Int32))]) rfl ?_
              show Steps p.tables e below (T169.setTop (mkF m 284 #[.val (.long q1), .second, .val (.long q2), .second, .val (.long q3), .second, .val (.long q4), .second, .val (.int p5), .val (.int m1), .val (.int m2), .val (.int m3), .val (.int m4), .val (.int m5), .val (.int m6), .val (.int m7), .val (.int m8), .val (.int ax0), .val (.int ax1), .val (.int ay0), .val (.int ay1), .val (.int bx0), .val (.int bx1), .val (.int by0), .val (.int by1), .val (.ref ba), .val (.ref bb), .val (.int (p5 &&& (7 : Int32))), .val (.int (0 : Int32))] [])) _
              refine XS.aload X169.here hx rfl (hb hby at_284) rfl rfl ?_
              show Steps p.tables e below (T169.setTop (mkF m 286 #[.val (.long q1), .second, .val (.long q2), .second, .val (.long q3), .second, .val (.long q4), .second, .val (.int p5), .val (.int m1), .val (.int m2), .val (.int m3), .val (.int m4), .val (.int m5), .val (.int m6), .val (.int m7), .val (.int m8), .val (.int ax0), .val (.int ax1), .val (.int ay0), .val (.int ay1), .val (.int bx0), .val (.int bx1), .val (.int by0), .val (.int by1), .val (.ref ba), .val (.ref bb), .val (.int (p5 &&& (7 : Int32))), .val (.int (0 : Int32))] [(.ref ba)])) _
              refine XS.aload X169.here hx rfl (hb hby at_286) rfl rfl ?_
              show Steps p.tables e below (T169.setTop (mkF m 288 #[.val (.long q1), .second, .val (.long q2), .second, .val (.long q3), .second, .val (.long q4), .second, .val (.int p5), .val (.int m1), .val (.int m2), .val (.int m3), .val (.int m4), .val (.int m5), .val (.int m6), .val (.int m7), .val (.int m8), .val (.int ax0), .val (.int ax1), .val (.int ay0), .val (.int ay1), .val (.int bx0), .val (.int bx1), .val (.int by0), .val (.int by1), .val (.ref ba), .val (.ref bb), .val (.int (p5 &&& (7 : Int32))), .val (.int (0 : Int32))] [(.ref bb), (.ref ba)])) _
              refine st171.trans ?_
              show Steps p.tables e below (T171.setTop (mkF m 291 #[.val (.long q1), .second, .val (.long q2), .second, .val (.long q3), .second, .val (.long q4), .second, .val (.int p5), .val (.int m1), .val (.int m2), .val (.int m3), .val (.int m4), .val (.int m5), .val (.int m6), .val (.int m7), .val (.int m8), .val (.int ax0), .val (.int ax1), .val (.int ay0), .val (.int ay1), .val (.int bx0), .val (.int bx1), .val (.int by0), .val (.int by1), .val (.ref ba), .val (.ref bb), .val (.int (p5 &&& (7 : Int32))), .val (.int (0 : Int32))] [(.int (own_cont ax0 ay0 ax1 ay1 bx0 by0 bx1 by1))])) _
              refine XS.iload X171.here hx rfl (hb hby at_291) rfl ?_
              show Steps p.tables e below (T171.setTop (mkF m 293 #[.val (.long q1), .second, .val (.long q2), .second, .val (.long q3), .second, .val (.long q4), .second, .val (.int p5), .val (.int m1), .val (.int m2), .val (.int m3), .val (.int m4), .val (.int m5), .val (.int m6), .val (.int m7), .val (.int m8), .val (.int ax0), .val (.int ax1), .val (.int ay0), .val (.int ay1), .val (.int bx0), .val (.int bx1), .val (.int by0), .val (.int by1), .val (.ref ba), .val (.ref bb), .val (.int (p5 &&& (7 : Int32))), .val (.int (0 : Int32))] [(.int (0 : Int32)), (.int (own_cont ax0 ay0 ax1 ay1 bx0 by0 bx1 by1))])) _
              refine XS.icmpNo X171.here hx rfl (hb hby at_293) rfl (teq (own_c2 o_bx o_by hc2)).2 ?_
              show Steps p.tables e below (T171.setTop (mkF m 296 #[.val (.long q1), .second, .val (.long q2), .second, .val (.long q3), .second, .val (.long q4), .second, .val (.int p5), .val (.int m1), .val (.int m2), .val (.int m3), .val (.int m4), .val (.int m5), .val (.int m6), .val (.int m7), .val (.int m8), .val (.int ax0), .val (.int ax1), .val (.int ay0), .val (.int ay1), .val (.int bx0), .val (.int bx1), .val (.int by0), .val (.int by1), .val (.ref ba), .val (.ref bb), .val (.int (p5 &&& (7 : Int32))), .val (.int (0 : Int32))] [])) _
              refine XS.iconst X171.here hx rfl (hb hby at_296) ?_
              show Steps p.tables e below (T171.setTop (mkF m 297 #[.val (.long q1), .second, .val (.long q2), .second, .val (.long q3), .second, .val (.long q4), .second, .val (.int p5), .val (.int m1), .val (.int m2), .val (.int m3), .val (.int m4), .val (.int m5), .val (.int m6), .val (.int m7), .val (.int m8), .val (.int ax0), .val (.int ax1), .val (.int ay0), .val (.int ay1), .val (.int bx0), .val (.int bx1), .val (.int by0), .val (.int by1), .val (.ref ba), .val (.ref bb), .val (.int (p5 &&& (7 : Int32))), .val (.int (0 : Int32))] [(.int (1 : Int32))])) _
              refine XS.goto X171.here hx rfl (pc0 := 297) (pc' := 301) rfl (hb hby at_297) (by decide) (by decide) ?_
              exact k_)
            obtain ⟨fs, hr, hrun, hended, hW, hsame⟩ := X171.leave (v := some (.int (1 : Int32))) (fun h => by rw [Bd.returns] at h; cases h)
            refine ⟨_, _, pre172 _ ?_, hrun, hended, _, _, rfl, ?_, ⟨_, rfl⟩, hW, hsame.mono (by decide) (by decide)⟩
            · show Steps p.tables e below (T171.setTop (mkF m 301 #[.val (.long q1), .second, .val (.long q2), .second, .val (.long q3), .second, .val (.long q4), .second, .val (.int p5), .val (.int m1), .val (.int m2), .val (.int m3), .val (.int m4), .val (.int m5), .val (.int m6), .val (.int m7), .val (.int m8), .val (.int ax0), .val (.int ax1), .val (.int ay0), .val (.int ay1), .val (.int bx0), .val (.int bx1), .val (.int by0), .val (.int by1), .val (.ref ba), .val (.ref bb), .val (.int (p5 &&& (7 : Int32))), .val (.int (0 : Int32))] [(.int (1 : Int32))])) _
              exact retN X171 hx (t := .boolean) Bd.returns (by simp) (hb hby at_301) hr
            · show Qrm0 Z q1 q2 q3 q4 p5 aA aE h0 n0 _ T171.heap _
              rw [e171]
              exact ⟨rfl, N171⟩
          · skip
            obtain ⟨cq173, kq173, q173a, q173b, q173c⟩ := isOf hZ e169 E_ba_143
            obtain ⟨_, _, ⟨T173, L173, k173, n173⟩, -, X173, ⟨Lc173, hQ173, l173, y173, z173⟩, st173⟩ := X169.virtualBack hx (y := (⟨"com/example/wakeline/wakeline/model/Box", "contains", "(Lcom/example/wakeline/wakeline/model/Box;)Z"⟩ : MethodName)) (z := (⟨"com/example/wakeline/wakeline/model/Box", "contains", "(Lcom/example/wakeline/wakeline/model/Box;)Z"⟩ : MethodName)) hown (mvT hZ (hw _ (List.mem_of_getElem? (i := 31) rfl))) (mvT hZ (hw _ (List.mem_of_getElem? (i := 32) rfl))) (notFace_of_selects (args := #[]) (mvT hZ (hw _ (List.mem_of_getElem? (i := 34) rfl)))) (mvT hZ (hw _ (List.mem_of_getElem? (i := 34) rfl))) (mvT hZ (hw _ (List.mem_of_getElem? (i := 33) rfl))) (by decide) (backOf (W := 0) (rmK l Z a0 hw [] ba bb ax0 ay0 ax1 ay1 bx0 by0 bx1 by1 T141.heap n0 Z149 F0_ba_144 F1_ba_145 F2_ba_146 F3_ba_147 F0141 F1141 F2141 F3141) hZ (hw _ (List.mem_of_getElem? (i := 35) rfl)) (hw _ (List.mem_of_getElem? (i := 9) rfl)) (by decide) (by decide)) q173a q173c (g := (mkF m 288 #[.val (.long q1), .second, .val (.long q2), .second, .val (.long q3), .second, .val (.long q4), .second, .val (.int p5), .val (.int m1), .val (.int m2), .val (.int m3), .val (.int m4), .val (.int m5), .val (.int m6), .val (.int m7), .val (.int m8), .val (.int ax0), .val (.int ax1), .val (.int ay0), .val (.int ay1), .val (.int bx0), .val (.int bx1), .val (.int by0), .val (.int by1), .val (.ref ba), .val (.ref bb), .val (.int (p5 &&& (7 : Int32))), .val (.int (1 : Int32))] [(.ref bb), (.ref ba)])) rfl (by rw [hml]; rfl) (Steps.refl _) (argsL := [(.ref bb)]) (rest := []) (lenOf pd_3 rfl) rfl (by show 2 * 0 + _ ≤ _; exact Nat.le_of_eq rfl) (hb hby at_288) (fun _ _ => ⟨rfl, e169, (by decide : 2 + 0 ≤ _), (by decide : 8 + 0 ≤ _)⟩)
            dsimp only [Pt.U, Pt.locs, Pt.cells, Pt.slots] at X173 l173 y173 z173 st173 hQ173
            subst l173 y173 z173
            obtain ⟨rfl, N173q, e173⟩ := hQ173
            have N173 := Fr.app N169 N173q
            have pre174 : ∀ t_, Steps p.tables e below (T173.setTop (mkF m 301 #[.val (.long q1), .second, .val (.long q2), .second, .val (.long q3), .second, .val (.long q4), .second, .val (.int p5), .val (.int m1), .val (.int m2), .val (.int m3), .val (.int m4), .val (.int m5), .val (.int m6), .val (.int m7), .val (.int m8), .val (.int ax0), .val (.int ax1), .val (.int ay0), .val (.int ay1), .val (.int bx0), .val (.int bx1), .val (.int by0), .val (.int by1), .val (.ref ba), .val (.ref bb), .val (.int (p5 &&& (7 : Int32))), .val (.int (1 : Int32))] [(.int (1 : Int32))])) t_ → Steps p.tables e below (s₁.setTop (entryFrame m #[(.long q1), (.long q2), (.long q3), (.long q4), (.int p5)] maxLocals)) t_ := fun t_ k_ => pre170 _ (by
              show Steps p.tables e below (T169.setTop (mkF m 274 #[.val (.long q1), .second, .val (.long q2), .second, .val (.long q3), .second, .val (.long q4), .second, .val (.int p5), .val (.int m1), .val (.int m2), .val (.int m3), .val (.int m4), .val (.int m5), .val (.int m6), .val (.int m7), .val (.int m8), .val (.int ax0), .val (.int ax1), .val (.int ay0), .val (.int ay1), .val (.int bx0), .val (.int bx1), .val (.int by0), .val (.int by1), .val (.ref ba), .val (.ref bb), .val (.int (p5 &&& (7 : Int32))), .unset] [(.int (own_in ax0 ay0 ax1 ay1 bx1 by1))])) _
              refine XS.ifNo X169.here hx rfl (hb hby at_274) rfl ((if0 _ _).trans (feq hc2).1) ?_
              show Steps p.tables e below (T169.setTop (mkF m 277 #[.val (.long q1), .second, .val (.long q2), .second, .val (.long q3), .second, .val (.long q4), .second, .val (.int p5), .val (.int m1), .val (.int m2), .val (.int m3), .val (.int m4), .val (.int m5), .val (.int m6), .val (.int m7), .val (.int m8), .val (.int ax0), .val (.int ax1), .val (.int ay0), .val (.int ay1), .val (.int bx0), .val (.int bx1), .val (.int by0), .val (.int by1), .val (.ref ba), .val (.ref bb), .val (.int (p5 &&& (7 : Int32))), .unset] [])) _
              refine XS.iconst X169.here hx rfl (hb hby at_277) ?_
              show Steps p.tables e below (T169.setTop (mkF m 278 #[.val (.long q1), .second, .val (.long q2), .second, .val (.long q3), .second, .val (.long q4), .second, .val (.int p5), .val (.int m1), .val (.int m2), .val (.int m3), .val (.int m4), .val (.int m5), .val (.int m6), .val (.int m7), .val (.int m8), .val (.int ax0), .val (.int ax1), .val (.int ay0), .val (.int ay1), .val (.int bx0), .val (.int bx1), .val (.int by0), .val (.int by1), .val (.ref ba), .val (.ref bb), .val (.int (p5 &&& (7 : Int32))), .unset] [(.int (1 : Int32))])) _
              refine XS.goto X169.here hx rfl (pc0 := 278) (pc' := 282) rfl (hb hby at_278) (by decide) (by decide) ?_
              show Steps p.tables e below (T169.setTop (mkF m 282 #[.val (.long q1), .second, .val (.long q2), .second, .val (.long q3), .second, .val (.long q4), .second, .val (.int p5), .val (.int m1), .val (.int m2), .val (.int m3), .val (.int m4), .val (.int m5), .val (.int m6), .val (.int m7), .val (.int m8), .val (.int ax0), .val (.int ax1), .val (.int ay0), .val (.int ay1), .val (.int bx0), .val (.int bx1), .val (.int by0), .val (.int by1), .val (.ref ba), .val (.ref bb), .val (.int (p5 &&& (7 : Int32))), .unset] [(.int (1 : Int32))])) _
              refine XS.istore X169.here hx rfl (hb hby at_282) rfl (l' := #[.val (.long q1), .second, .val (.long q2), .second, .val (.long q3), .second, .val (.long q4), .second, .val (.int p5), .val (.int m1), .val (.int m2), .val (.int m3), .val (.int m4), .val (.int m5), .val (.int m6), .val (.int m7), .val (.int m8), .val (.int ax0), .val (.int ax1), .val (.int ay0), .val (.int ay1), .val (.int bx0), .val (.int bx1), .val (.int by0), .val (.int by1), .val (.ref ba), .val (.ref bb), .val (.int (p5 &&& (7 : Int32))), .val (.int (1 : Int32))]) rfl ?_
              show Steps p.tables e below (T169.setTop (mkF m 284 #[.val (.long q1), .second, .val (.long q2), .second, .val (.long q3), .second, .val (.long q4), .second, .val (.int p5), .val (.int m1), .val (.int m2), .val (.int m3), .val (.int m4), .val (.int m5), .val (.int m6), .val (.int m7), .val (.int m8), .val (.int ax0), .val (.int ax1), .val (.int ay0), .val (.int ay1), .val (.int bx0), .val (.int bx1), .val (.int by0), .val (.int by1), .val (.ref ba), .val (.ref bb), .val (.int (p5 &&& (7 : Int32))), .val (.int (1 : Int32))] [])) _
              refine XS.aload X169.here hx rfl (hb hby at_284) rfl rfl ?_
              show Steps p.tables e below (T169.setTop (mkF m 286 #[.val (.long q1), .second, .val (.long q2), .second, .val (.long q3), .second, .val (.long q4), .second, .val (.int p5), .val (.int m1), .val (.int m2), .val (.int m3), .val (.int m4), .val (.int m5), .val (.int m6), .val (.int m7), .val (.int m8), .val (.int ax0), .val (.int ax1), .val (.int ay0), .val (.int ay1), .val (.int bx0), .val (.int bx1), .val (.int by0), .val (.int by1), .val (.ref ba), .val (.ref bb), .val (.int (p5 &&& (7 : Int32))), .val (.int (1 : Int32))] [(.ref ba)])) _
              refine XS.aload X169.here hx rfl (hb hby at_286) rfl rfl ?_
              show Steps p.tables e below (T169.setTop (mkF m 288 #[.val (.long q1), .second, .val (.long q2), .second, .val (.long q3), .second, .val (.long q4), .second, .val (.int p5), .val (.int m1), .val (.int m2), .val (.int m3), .val (.int m4), .val (.int m5), .val (.int m6), .val (.int m7), .val (.int m8), .val (.int ax0), .val (.int ax1), .val (.int ay0), .val (.int ay1), .val (.int bx0), .val (.int bx1), .val (.int by0), .val (.int by1), .val (.ref ba), .val (.ref bb), .val (.int (p5 &&& (7 : Int32))), .val (.int (1 : Int32))] [(.ref bb), (.ref ba)])) _
              refine st173.trans ?_
              show Steps p.tables e below (T173.setTop (mkF m 291 #[.val (.long q1), .second, .val (.long q2), .second, .val (.long q3), .second, .val (.long q4), .second, .val (.int p5), .val (.int m1), .val (.int m2), .val (.int m3), .val (.int m4), .val (.int m5), .val (.int m6), .val (.int m7), .val (.int m8), .val (.int ax0), .val (.int ax1), .val (.int ay0), .val (.int ay1), .val (.int bx0), .val (.int bx1), .val (.int by0), .val (.int by1), .val (.ref ba), .val (.ref bb), .val (.int (p5 &&& (7 : Int32))), .val (.int (1 : Int32))] [(.int (own_cont ax0 ay0 ax1 ay1 bx0 by0 bx1 by1))])) _
              refine XS.iload X173.here hx rfl (hb hby at_291) rfl ?_
              show Steps p.tables e below (T173.setTop (mkF m 293 #[.val (.long q1), .second, .val (.long q2), .second, .val (.long q3), .second, .val (.long q4), .second, .val (.int p5), .val (.int m1), .val (.int m2), .val (.int m3), .val (.int m4), .val (.int m5), .val (.int m6), .val (.int m7), .val (.int m8), .val (.int ax0), .val (.int ax1), .val (.int ay0), .val (.int ay1), .val (.int bx0), .val (.int bx1), .val (.int by0), .val (.int by1), .val (.ref ba), .val (.ref bb), .val (.int (p5 &&& (7 : Int32))), .val (.int (1 : Int32))] [(.int (1 : Int32)), (.int (own_cont ax0 ay0 ax1 ay1 bx0 by0 bx1 by1))])) _
              refine XS.icmpNo X173.here hx rfl (hb hby at_293) rfl (teq (own_c3 hc1 hc2)).2 ?_
              show Steps p.tables e below (T173.setTop (mkF m 296 #[.val (.long q1), .second, .val (.long q2), .second, .val (.long q3), .second, .val (.long q4), .second, .val (.int p5), .val (.int m1), .val (.int m2), .val (.int m3), .val (.int m4), .val (.int m5), .val (.int m6), .val (.int m7), .val (.int m8), .val (.int ax0), .val (.int ax1), .val (.int ay0), .val (.int ay1), .val (.int bx0), .val (.int bx1), .val (.int by0), .val (.int by1), .val (.ref ba), .val (.ref bb), .val (.int (p5 &&& (7 : Int32))), .val (.int (1 : Int32))] [])) _
              refine XS.iconst X173.here hx rfl (hb hby at_296) ?_
              show Steps p.tables e below (T173.setTop (mkF m 297 #[.val (.long q1), .second, .val (.long q2), .second, .val (.long q3), .second, .val (.long q4), .second, .val (.int p5), .val (.int m1), .val (.int m2), .val (.int m3), .val (.int m4), .val (.int m5), .val (.int m6), .val (.int m7), .val (.int m8), .val (.int ax0), .val (.int ax1), .val (.int ay0), .val (.int ay1), .val (.int bx0), .val (.int bx1), .val (.int by0), .val (.int by1), .val (.ref ba), .val (.ref bb), .val (.int (p5 &&& (7 : Int32))), .val (.int (1 : Int32))] [(.int (1 : Int32))])) _
              refine XS.goto X173.here hx rfl (pc0 := 297) (pc' := 301) rfl (hb hby at_297) (by decide) (by decide) ?_
              exact k_)
            obtain ⟨fs, hr, hrun, hended, hW, hsame⟩ := X173.leave (v := some (.int (1 : Int32))) (fun h => by rw [Bd.returns] at h; cases h)
            refine ⟨_, _, pre174 _ ?_, hrun, hended, _, _, rfl, ?_, ⟨_, rfl⟩, hW, hsame.mono (by decide) (by decide)⟩
            · show Steps p.tables e below (T173.setTop (mkF m 301 #[.val (.long q1), .second, .val (.long q2), .second, .val (.long q3), .second, .val (.long q4), .second, .val (.int p5), .val (.int m1), .val (.int m2), .val (.int m3), .val (.int m4), .val (.int m5), .val (.int m6), .val (.int m7), .val (.int m8), .val (.int ax0), .val (.int ax1), .val (.int ay0), .val (.int ay1), .val (.int bx0), .val (.int bx1), .val (.int by0), .val (.int by1), .val (.ref ba), .val (.ref bb), .val (.int (p5 &&& (7 : Int32))), .val (.int (1 : Int32))] [(.int (1 : Int32))])) _
              exact retN X173 hx (t := .boolean) Bd.returns (by simp) (hb hby at_301) hr
            · show Qrm0 Z q1 q2 q3 q4 p5 aA aE h0 n0 _ T173.heap _
              rw [e173]
              exact ⟨rfl, N173⟩
set_option maxRecDepth 65536 in
set_option maxHeartbeats 40000000 in
theorem comes_1 {Post : Tables → Env → Array Value → State → Outcome → State → Prop} (hpost : ∀ tb e args s v u, (limb_1_1.after args s (.returned v) u = true ∧ limb_1_2.after args s (.returned v) u = true ∧ True) → FrameEnd s (.returned v) u (Jvm.fieldLocs frame_1_writes args s ++ Jvm.arrayLocs frame_1_arrays args s ++ Jvm.staticLocs frame_1_statics s) 16 128 → Post tb e args s (.returned v) u) :
    ArmFor flags0 classFile x code maxLocals ret World_1 tables_1 room_1 Calls_1 rest_1 Pre_1 Post := by
  intro l hfl _ _ p e ha hc hk s m args below hf hA hF happ hP
  obtain ⟨hcalls, hrest, hpre⟩ := hP
  obtain ⟨-, -, -, hnamed, -, -, -, hat⟩ := (Spec.applies_iff hf).mp happ
  obtain ⟨hg, hn⟩ := and_e (Cond.before_iff.mp (show (Jvm.Cond.and given_1 narrow_1).before args s = true from hpre))
  obtain ⟨gg1, gg2⟩ := and_e hg
  obtain ⟨gg3, gg4⟩ := and_e gg2
  obtain ⟨gg5, gg6⟩ := and_e gg4
  obtain ⟨gg7, gg8⟩ := and_e gg6
  obtain ⟨gg9, gg10⟩ := and_e gg8
  obtain ⟨w0, w1, w2, w3, w4, rfl⟩ : ∃ w0 w1 w2 w3 w4 : Value, args = #[w0, w1, w2, w3, w4] := by
    have hs : args.size = 5 := by simpa [Cond.value, given_1] using gg1
    obtain ⟨L⟩ := args
    match L, hs with
    | [w0, w1, w2, w3, w4], _ => exact ⟨w0, w1, w2, w3, w4, rfl⟩
  have hw := fun d (hd : d ∈ tables_1) => atoms_spec (ws := Jvm.Cond.code x code maxLocals ret :: tables_1) hat d (List.mem_cons_of_mem _ hd)
  have hfit : Fit s := fun {y c} hc i hi => by
    obtain ⟨ha, rfl⟩ := Array.getElem?_eq_some_iff.mp hc
    have q := List.all_eq_true.mp ((Array.all_eq_true_iff_forall_mem.mp hF) _ (Array.getElem_mem ha)) i (List.mem_range.mpr hi)
    simpa [Array.getElem?_eq_getElem hi] using q
  obtain ⟨i0, ei0⟩ := isL_v gg3
  obtain rfl : w0 = (.long i0) := Option.some.inj ei0
  obtain ⟨i1, ei1⟩ := isL_v gg5
  obtain rfl : w1 = (.long i1) := Option.some.inj ei1
  obtain ⟨i2, ei2⟩ := isL_v gg7
  obtain rfl : w2 = (.long i2) := Option.some.inj ei2
  obtain ⟨i3, ei3⟩ := isL_v gg9
  obtain rfl : w3 = (.long i3) := Option.some.inj ei3
  obtain ⟨i4, ei4⟩ := is_v gg10
  obtain rfl : w4 = (.int i4) := Option.some.inj ei4
  obtain ⟨nn1, nn2⟩ := and_e hn
  obtain ⟨nn3, nn4⟩ := and_e nn2
  obtain ⟨nn5, nn6⟩ := and_e nn4
  obtain ⟨nn7, nn8⟩ := and_e nn6
  obtain ⟨nn9, nn10⟩ := and_e nn8
  obtain ⟨nn11, nn12⟩ := and_e nn10
  obtain ⟨nn13, nn14⟩ := and_e nn12
  obtain ⟨nn15, nn16⟩ := and_e nn14
  obtain ⟨nn17, nn18⟩ := and_e nn16
  obtain ⟨aA, evA, X_A, S_A⟩ := own_static nn1 (hw _ (List.mem_of_getElem? (i := 9) rfl)) (hw _ (List.mem_of_getElem? (i := 30) rfl))
  obtain ⟨aE, evE, X_E, S_E⟩ := own_static nn11 (hw _ (List.mem_of_getElem? (i := 9) rfl)) (hw _ (List.mem_of_getElem? (i := 41) rfl))
  have A0 := own_fD own_ninf evA nn3
  have A2 := own_fD own_pinf evA nn5
  have A1 := own_fD own_ninf evA nn7
  have A3 := own_fD own_pinf evA nn9
  have E0 := own_fD own_pinf evE nn13
  have E2 := own_fD own_ninf evE nn15
  have E1 := own_fD own_pinf evE nn17
  have E3 := own_fD own_ninf evE nn18
  obtain ⟨n, o, h1, h2, h3, _, L, rfl, ⟨rfl, N⟩, hq⟩ := rm0 l s _ hw tables_1 i0 i1 i2 i3 i4 aA aE s.heap s.heap.size (Nat.le_refl _) (Old.start s) S_A S_E X_A X_E A0 A1 A2 A3 E0 E1 E2 E3 p e ha hc hk s m _ below hf ((Spec.applies_iff_loose hf).mp happ).1 ⟨rfl, State.Warmed39.refl s, rfl⟩ trivial
  refine ⟨n, _, h1, h2, h3, hpost _ _ _ _ _ _ ⟨Cond.after_iff.mpr rfl, Cond.after_iff.mpr (eq_i res_at (Term.int_eval (1)) rfl), trivial⟩ ⟨hq.1, hq.2.1, (hq.2.2.sift fun y hy => Or.inr (N y hy)).mono (by decide) (by decide)⟩⟩
theorem main_1_1 : Claimed_1_1 := comes_1 fun _ _ _ _ _ _ h hF => ⟨h.1, hF⟩
theorem main_1_2 : Claimed_1_2 := comes_1 fun _ _ _ _ _ _ h hF => ⟨h.2.1, hF⟩
end Jvm.Pilot.@@N@@
namespace Jvm.Pilot.@@N@@
open Jvm Jvm.ClassFile Sem Op Lib Jvm.Free Jvm.Stand Jvm.Pilot.@@N@@.Jvm.D
/-! MADE BY PROGRAM (witnessworld.py) out of the Statement's table words and the real class files: 11 classes; the members and pool entries that the words name. The judged class is class 1, her method 2. -/
namespace start1
open Jvm.ClassFile
def u (s : String) : CpInfo := .utf8 (stringToUtf16 s)
/-- a pool by its gaps: so many unusable entries, then the entry; so many at the end -/
def gap : Nat → List CpInfo → List CpInfo
  | 0, r => r
  | n + 1, r => .unusable :: gap n r
def poolList (es : List (Nat × CpInfo)) (last : Nat) : List CpInfo := es.foldr (fun e r => gap e.1 (e.2 :: r)) (gap last [])
def pool (es : List (Nat × CpInfo)) (last : Nat) : Array CpInfo := ⟨poolList es last⟩
def fileOf (pool : Array CpInfo) (this : Nat) (attrs : Array Attribute := #[]) (ms : Array MethodInfo := #[]) (fl : Nat := 33) (sup : Nat := 0) (ifs : Array Nat := #[]) (fds : Array FieldInfo := #[]) : ClassFile where
  minorVersion := 0
  majorVersion := 65
  constantPool := pool
  accessFlags := fl
  thisClass := this
  superClass := sup
  interfaces := ifs
  fields := fds
  methods := ms
  attributes := attrs
def plain (name : String) (sup : Option ClassId) : Class where
  name := name
  kind := .ordinary
  loader := none
  accessFlags := 33
  super := sup
  interfaces := #[]
  cf := none
  fields := #[]
  methods := #[]
  instanceTypes := #[]
  staticTypes := #[]
  resolved := #[]
  callSites := []
  init := .initialized
  statics := none
  mirror := none

def pool0 : Array CpInfo := pool [(5, u "<init>"), (0, u "()V"), (1, .class_ 10), (1, u "java/lang/Object")] 113

def k0c0 : Code := { maxStack := 0, maxLocals := 1, code := object_method_1_code, exceptionTable := #[], attributes := #[] }
def k0m0 : Method := { name := "<init>", desc := "()V", sig := { parameters := [], returnType := none }, accessFlags := 1, code := some k0c0 }
/-- java/lang/Object -/
def k0 : Class := { plain "java/lang/Object" none with
  accessFlags := 33
  interfaces := #[]
  cf := some (fileOf pool0 8 #[] #[{ accessFlags := 1, nameIndex := 5, descriptorIndex := 6, attributes := #[] }] 33 0 #[] #[])
  fields := #[]
  methods := #[k0m0]
  instanceTypes := #[]
  staticTypes := #[]
  resolved := Array.replicate 124 none
  statics := none }

def pool1 : Array CpInfo := pool [(2, .class_ 4), (1, u "java/lang/Object"), (0, u "<init>"), (0, u "()V"), (0, .methodref 8 9), (0, .class_ 10), (0, .nameAndType 11 12), (0, u "java/lang/Math"), (0, u "min"), (0, u "(II)I"), (0, .methodref 8 14), (0, .nameAndType 15 12), (0, u "max"), (0, .class_ 17), (0, u "com/example/wakeline/wakeline/model/Box"), (0, .methodref 16 19), (0, .nameAndType 5 20), (0, u "(DDDD)V"), (0, .fieldref 16 22), (0, .nameAndType 23 24), (0, u "EMPTY"), (0, u "Lcom/example/wakeline/wakeline/model/Box;"), (0, .methodref 16 26), (0, .nameAndType 27 28), (0, u "contains"), (0, u "(Lcom/example/wakeline/wakeline/model/Box;)Z"), (0, .fieldref 16 30), (0, .nameAndType 31 24), (0, u "ALL"), (0, .methodref 33 34), (0, .class_ 35), (0, .nameAndType 36 37), (0, u "com/example/wakeline/wakeline/model/BoxContainsPinLaw"), (0, u "in"), (0, u "(IIIIII)Z"), (3, u "law"), (0, u "(JJJJI)Z")] 2

def k1m0 : Method := { name := "<init>", desc := "()V", sig := { parameters := [], returnType := none }, accessFlags := 1, code := none }
def k1c1 : Code := { maxStack := 2, maxLocals := 6, code := method_2_code, exceptionTable := #[], attributes := #[] }
def k1m1 : Method := { name := "in", desc := "(IIIIII)Z", sig := { parameters := [.int, .int, .int, .int, .int, .int], returnType := some .boolean }, accessFlags := 10, code := some k1c1 }
def k1c2 : Code := { maxStack := 10, maxLocals := 29, code := code, exceptionTable := #[], attributes := #[] }
def k1m2 : Method := { name := "law", desc := "(JJJJI)Z", sig := { parameters := [.long, .long, .long, .long, .int], returnType := some .boolean }, accessFlags := 9, code := some k1c2 }
/-- com/example/wakeline/wakeline/model/BoxContainsPinLaw -/
def k1 : Class := { plain "com/example/wakeline/wakeline/model/BoxContainsPinLaw" (some 0) with
  accessFlags := 49
  interfaces := #[]
  cf := some (fileOf pool1 33 #[] #[{ accessFlags := 1, nameIndex := 5, descriptorIndex := 6, attributes := #[] }, { accessFlags := 10, nameIndex := 36, descriptorIndex := 37, attributes := #[] }, { accessFlags := 9, nameIndex := 41, descriptorIndex := 42, attributes := #[] }] 49 2 #[] #[])
  fields := #[]
  methods := #[k1m0, k1m1, k1m2]
  instanceTypes := #[]
  staticTypes := #[]
  resolved := Array.replicate 45 none
  statics := none }

def pool2 : Array CpInfo := pool [(1, .class_ 2), (0, u "java/lang/Math"), (1, .class_ 6), (1, u "java/lang/Object"), (0, u "<init>"), (0, u "()V"), (89, .class_ 100), (1, u "java/lang/Math$RandomNumberGeneratorHolder"), (71, u "negativeZeroFloatBits"), (0, u "J"), (2, u "negativeZeroDoubleBits"), (21, u "max"), (2, u "min"), (43, u "$assertionsDisabled"), (0, u "Z"), (88, u "(II)I"), (2, u "twoToTheDoubleScaleDown"), (0, u "D"), (4, u "twoToTheDoubleScaleUp"), (9, u "E"), (3, u "PI"), (2, u "TAU"), (2, u "DEGREES_TO_RADIANS"), (0, u "RADIANS_TO_DEGREES")] 94

def k2m0 : Method := { name := "<init>", desc := "()V", sig := { parameters := [], returnType := none }, accessFlags := 2, code := none }
def k2c1 : Code := { maxStack := 2, maxLocals := 2, code := jdk_29_method_65_code, exceptionTable := #[], attributes := #[] }
def k2m1 : Method := { name := "max", desc := "(II)I", sig := { parameters := [.int, .int], returnType := some .int }, accessFlags := 9, code := some k2c1 }
def k2c2 : Code := { maxStack := 2, maxLocals := 2, code := jdk_29_method_69_code, exceptionTable := #[], attributes := #[] }
def k2m2 : Method := { name := "min", desc := "(II)I", sig := { parameters := [.int, .int], returnType := some .int }, accessFlags := 9, code := some k2c2 }
/-- java/lang/Math -/
def k2 : Class := { plain "java/lang/Math" (some 0) with
  accessFlags := 49
  interfaces := #[]
  cf := some (fileOf pool2 1 #[.nestMembers #[98]] #[{ accessFlags := 2, nameIndex := 7, descriptorIndex := 8, attributes := #[] }, { accessFlags := 9, nameIndex := 198, descriptorIndex := 335, attributes := #[] }, { accessFlags := 9, nameIndex := 201, descriptorIndex := 335, attributes := #[] }] 49 4 #[] #[{ accessFlags := 25, nameIndex := 354, descriptorIndex := 339, attributes := #[] }, { accessFlags := 25, nameIndex := 358, descriptorIndex := 339, attributes := #[] }, { accessFlags := 25, nameIndex := 361, descriptorIndex := 339, attributes := #[] }, { accessFlags := 26, nameIndex := 364, descriptorIndex := 339, attributes := #[] }, { accessFlags := 26, nameIndex := 365, descriptorIndex := 339, attributes := #[] }, { accessFlags := 26, nameIndex := 172, descriptorIndex := 173, attributes := #[] }, { accessFlags := 26, nameIndex := 176, descriptorIndex := 173, attributes := #[] }, { accessFlags := 8, nameIndex := 344, descriptorIndex := 339, attributes := #[] }, { accessFlags := 8, nameIndex := 338, descriptorIndex := 339, attributes := #[] }, { accessFlags := 4120, nameIndex := 245, descriptorIndex := 246, attributes := #[] }])
  fields := #[{ name := "E", type := .double, accessFlags := 25, slot := 0, constantValue := 0 }, { name := "PI", type := .double, accessFlags := 25, slot := 1, constantValue := 0 }, { name := "TAU", type := .double, accessFlags := 25, slot := 2, constantValue := 0 }, { name := "DEGREES_TO_RADIANS", type := .double, accessFlags := 26, slot := 3, constantValue := 0 }, { name := "RADIANS_TO_DEGREES", type := .double, accessFlags := 26, slot := 4, constantValue := 0 }, { name := "negativeZeroFloatBits", type := .long, accessFlags := 26, slot := 5, constantValue := 0 }, { name := "negativeZeroDoubleBits", type := .long, accessFlags := 26, slot := 6, constantValue := 0 }, { name := "twoToTheDoubleScaleUp", type := .double, accessFlags := 8, slot := 7, constantValue := 0 }, { name := "twoToTheDoubleScaleDown", type := .double, accessFlags := 8, slot := 8, constantValue := 0 }, { name := "$assertionsDisabled", type := .boolean, accessFlags := 4120, slot := 9, constantValue := 0 }]
  methods := #[k2m0, k2m1, k2m2]
  instanceTypes := #[]
  staticTypes := #[.double, .double, .double, .double, .double, .long, .long, .double, .double, .boolean]
  resolved := Array.replicate 460 none
  statics := none }

def pool3 : Array CpInfo := pool [(1, .methodref 2 3), (0, .class_ 4), (0, .nameAndType 5 6), (0, u "java/lang/Object"), (0, u "<init>"), (0, u "()V"), (0, .class_ 8), (0, u "java/lang/Record")] 13

def k3c0 : Code := { maxStack := 1, maxLocals := 1, code := jdk_30_method_1_code, exceptionTable := #[], attributes := #[] }
def k3m0 : Method := { name := "<init>", desc := "()V", sig := { parameters := [], returnType := none }, accessFlags := 4, code := some k3c0 }
/-- java/lang/Record -/
def k3 : Class := { plain "java/lang/Record" (some 0) with
  accessFlags := 1057
  interfaces := #[]
  cf := some (fileOf pool3 7 #[] #[{ accessFlags := 4, nameIndex := 5, descriptorIndex := 6, attributes := #[] }] 1057 2 #[] #[])
  fields := #[]
  methods := #[k3m0]
  instanceTypes := #[]
  staticTypes := #[]
  resolved := Array.replicate 22 none
  statics := none }

def pool4 : Array CpInfo := pool [(1, .methodref 2 3), (0, .class_ 4), (0, .nameAndType 5 6), (0, u "java/lang/Record"), (0, u "<init>"), (0, u "()V"), (0, .fieldref 8 9), (0, .class_ 10), (0, .nameAndType 11 12), (0, u "com/example/wakeline/wakeline/model/Box"), (0, u "xmin"), (0, u "D"), (0, .fieldref 8 14), (0, .nameAndType 15 12), (0, u "ymin"), (0, .fieldref 8 17), (0, .nameAndType 18 12), (0, u "xmax"), (0, .fieldref 8 20), (0, .nameAndType 21 12), (0, u "ymax"), (18, u "(DDDD)V"), (20, u "EMPTY"), (0, u "Lcom/example/wakeline/wakeline/model/Box;"), (2, u "ALL"), (6, u "contains"), (1, u "(Lcom/example/wakeline/wakeline/model/Box;)Z")] 31

def k4c0 : Code := { maxStack := 3, maxLocals := 9, code := prog_34_method_1_code, exceptionTable := #[], attributes := #[] }
def k4m0 : Method := { name := "<init>", desc := "(DDDD)V", sig := { parameters := [.double, .double, .double, .double], returnType := none }, accessFlags := 1, code := some k4c0 }
def k4c1 : Code := { maxStack := 4, maxLocals := 2, code := prog_34_method_4_code, exceptionTable := #[], attributes := #[] }
def k4m1 : Method := { name := "contains", desc := "(Lcom/example/wakeline/wakeline/model/Box;)Z", sig := { parameters := [(.object "com/example/wakeline/wakeline/model/Box")], returnType := some .boolean }, accessFlags := 1, code := some k4c1 }
/-- com/example/wakeline/wakeline/model/Box -/
def k4 : Class := { plain "com/example/wakeline/wakeline/model/Box" (some 3) with
  accessFlags := 49
  interfaces := #[]
  cf := some (fileOf pool4 8 #[] #[{ accessFlags := 1, nameIndex := 5, descriptorIndex := 40, attributes := #[] }, { accessFlags := 1, nameIndex := 72, descriptorIndex := 74, attributes := #[] }] 49 2 #[] #[{ accessFlags := 18, nameIndex := 11, descriptorIndex := 12, attributes := #[] }, { accessFlags := 18, nameIndex := 15, descriptorIndex := 12, attributes := #[] }, { accessFlags := 18, nameIndex := 18, descriptorIndex := 12, attributes := #[] }, { accessFlags := 18, nameIndex := 21, descriptorIndex := 12, attributes := #[] }, { accessFlags := 25, nameIndex := 61, descriptorIndex := 62, attributes := #[] }, { accessFlags := 25, nameIndex := 65, descriptorIndex := 62, attributes := #[] }])
  fields := #[{ name := "xmin", type := .double, accessFlags := 18, slot := 0, constantValue := 0 }, { name := "ymin", type := .double, accessFlags := 18, slot := 1, constantValue := 0 }, { name := "xmax", type := .double, accessFlags := 18, slot := 2, constantValue := 0 }, { name := "ymax", type := .double, accessFlags := 18, slot := 3, constantValue := 0 }, { name := "EMPTY", type := (.object "com/example/wakeline/wakeline/model/Box"), accessFlags := 25, slot := 0, constantValue := 0 }, { name := "ALL", type := (.object "com/example/wakeline/wakeline/model/Box"), accessFlags := 25, slot := 1, constantValue := 0 }]
  methods := #[k4m0, k4m1]
  instanceTypes := #[.double, .double, .double, .double]
  staticTypes := #[(.object "com/example/wakeline/wakeline/model/Box"), (.object "com/example/wakeline/wakeline/model/Box")]
  resolved := Array.replicate 106 none
  statics := some 0 }

def pool5 : Array CpInfo := pool [(1, u "java/lang/Cloneable"), (0, .class_ 1), (0, u "java/lang/Object"), (0, .class_ 3)] 3

/-- java/lang/Cloneable -/
def k5 : Class := { plain "java/lang/Cloneable" (some 0) with
  accessFlags := 1537
  interfaces := #[]
  cf := some (fileOf pool5 2 #[] #[] 1537 4 #[] #[])
  fields := #[]
  methods := #[]
  instanceTypes := #[]
  staticTypes := #[]
  resolved := Array.replicate 8 none
  statics := none }

def pool6 : Array CpInfo := pool [(1, u "java/io/Serializable"), (0, .class_ 1), (0, u "java/lang/Object"), (0, .class_ 3)] 3

/-- java/io/Serializable -/
def k6 : Class := { plain "java/io/Serializable" (some 0) with
  accessFlags := 1537
  interfaces := #[]
  cf := some (fileOf pool6 2 #[] #[] 1537 4 #[] #[])
  fields := #[]
  methods := #[]
  instanceTypes := #[]
  staticTypes := #[]
  resolved := Array.replicate 8 none
  statics := none }

/-- the primitive byte -/
def k7 : Class := { plain "byte" none with kind := .primitive 'B', accessFlags := 0x411 }
/-- [B -/
def k8 : Class := { plain "[B" (some 0) with kind := .array 7 .byte, interfaces := #[5, 6], accessFlags := 1041 }

/-- the primitive int -/
def k9 : Class := { plain "int" none with kind := .primitive 'I', accessFlags := 0x411 }
/-- [I -/
def k10 : Class := { plain "[I" (some 0) with kind := .array 9 .int, interfaces := #[5, 6], accessFlags := 1041 }

def heap : Heap := #[{ cls := 4, slots := #[.ref 2, .ref 1], vm := .statics 4 },
  { cls := 4, slots := #[.double 18442240474082181120, .double 18442240474082181120, .double 9218868437227405312, .double 9218868437227405312], vm := .none },
  { cls := 4, slots := #[.double 9218868437227405312, .double 9218868437227405312, .double 18442240474082181120, .double 18442240474082181120], vm := .none }]
def classes : Array Class := #[k0, k1, k2, k3, k4, k5, k6, k7, k8, k9, k10]
def interned : List (Array UInt16 × Addr) := []
def slotsUsed : Nat := 10
def theMethod : MethodId := ⟨1, 2⟩
def args0 : Array Value := #[.long 5, .long 5, .long 5, .long 5, .int 5]
def aboutOver (below : List Frame) : State where
  vm := { classes := classes, interned := interned.toArray }
  heap := heap
  slotsUsed := slotsUsed
  threads := #[{ frames := .invoking theMethod args0 :: below }]
def below0 : List Frame := [.native { method := ⟨0, 0⟩, args := #[] }]
def about1 : State := aboutOver below0
def p0 : Program := .bare "" "" ""
def e0 : Env := launch0.env 0 0 0
theorem w_frames : about1.frames = Frame.invoking theMethod args0 :: below0 := rfl
set_option maxRecDepth 65536 in
theorem w_args : argsFit about1.vm theMethod args0 = true := by decide +kernel
set_option maxRecDepth 65536 in
theorem w_heap : heapFits about1 = true := by decide +kernel
set_option maxRecDepth 65536 in
theorem w_runnable : about1.curStatus? = some .runnable := by decide +kernel
set_option maxRecDepth 65536 in
theorem w_alone : about1.alone = true := by decide +kernel
set_option maxRecDepth 65536 in
theorem w_named : about1.methodNamed? x = some theMethod := by decide +kernel
set_option maxRecDepth 65536 in
theorem w_hears : about1.hears theMethod below0 = true := by decide +kernel
set_option maxRecDepth 65536 in
theorem w_ripe : about1.ripe theMethod args0 below0 = true := by decide +kernel
theorem w_running : about1.status = .running := rfl
set_option maxRecDepth 65536 in
theorem w_room : about1.hasRoom e0.platform room_1 = true :=
  launch0.hasRoom_least _ room_1 (by decide +kernel) (by decide +kernel) (by decide +kernel) (by decide +kernel) (by decide +kernel) (by decide +kernel)
theorem allAtoms_all (ts : List Jvm.Cond) (a : Array Jvm.Value) (st : Jvm.State) : (allAtoms ts).before a st = ts.all (fun c => c.before a st) := by
  induction ts with
  | nil => rfl
  | cons c t ih =>
    show (Jvm.Cond.and c (allAtoms t)).before a st = _
    rw [Jvm.Cond.before_and, ih, List.all_cons]
def words1 : List Jvm.Cond := Jvm.Cond.code x code maxLocals ret :: tables_1
/-- a 'code' word, met by the world's own term for the bytes: nothing is compared byte by byte -/
theorem code_word {y : MethodName} {bytes : ByteArray} {mx : Nat} {rt : Option FieldType} {a : Array Value} {s : State} {m : MethodId} {meth : Method} {c : Code} (h1 : s.methodNamed? y = some m) (h2 : s.vm.method? m = some meth) (h3 : meth.code = some c) (h4 : c.code = bytes)
    (h5 : (c.maxLocals == mx && c.exceptionTable.isEmpty && decide (c.maxStack ≤ mostOperands) && decide (meth.sig.returnType = rt) && !meth.locks && decide (parseMethodDescriptor y.desc = some meth.sig)) = true) : (Jvm.Cond.code y bytes mx rt).before a s = true := by
  simp only [Bool.and_eq_true, beq_iff_eq, Bool.not_eq_true', decide_eq_true_eq] at h5
  obtain ⟨⟨⟨⟨⟨g1, g2⟩, g3⟩, g4⟩, g5⟩, g6⟩ := h5
  simp [Cond.before, Cond.holds, Cond.value, h1, h2, h3, h4, g1, g2, g3, g4, g5, g6]
def isCode : Jvm.Cond → Bool
  | .code _ _ _ _ => true
  | _ => false
theorem all_split {L : List Jvm.Cond} {P : Jvm.Cond → Bool} (h1 : L.all (fun c => isCode c || P c) = true) (h2 : ∀ c ∈ L.filter isCode, P c = true) : L.all P = true := by
  refine List.all_eq_true.mpr fun c hc => ?_
  have h := List.all_eq_true.mp h1 c hc
  rcases Bool.eq_false_or_eq_true (isCode c) with hi | hi
  · exact h2 c (List.mem_filter.mpr ⟨hc, hi⟩)
  · simpa [hi] using h
set_option maxRecDepth 65536 in
theorem w_c0 : (Jvm.Cond.code x code maxLocals ret).before args0 about1 = true := code_word (m := ⟨1, 2⟩) (meth := k1m2) (c := k1c2) (by decide +kernel) rfl rfl rfl (by decide +kernel)
set_option maxRecDepth 65536 in
theorem w_c1 : (Jvm.Cond.code ({ cls := "java/lang/Math", name := "min", desc := "(II)I" } : Jvm.MethodName) jdk_29_method_69_code (2 : Nat) (Option.some Jvm.ClassFile.FieldType.int)).before args0 about1 = true := code_word (m := ⟨2, 2⟩) (meth := k2m2) (c := k2c2) (by decide +kernel) rfl rfl rfl (by decide +kernel)
set_option maxRecDepth 65536 in
theorem w_c2 : (Jvm.Cond.code ({ cls := "java/lang/Math", name := "max", desc := "(II)I" } : Jvm.MethodName) jdk_29_method_65_code (2 : Nat) (Option.some Jvm.ClassFile.FieldType.int)).before args0 about1 = true := code_word (m := ⟨2, 1⟩) (meth := k2m1) (c := k2c1) (by decide +kernel) rfl rfl rfl (by decide +kernel)
set_option maxRecDepth 65536 in
theorem w_c3 : (Jvm.Cond.code ({ cls := "com/example/wakeline/wakeline/model/Box", name := "<init>", desc := "(DDDD)V" } : Jvm.MethodName) prog_34_method_1_code (9 : Nat) (Option.none : Option Jvm.ClassFile.FieldType)).before args0 about1 = true := code_word (m := ⟨4, 0⟩) (meth := k4m0) (c := k4c0) (by decide +kernel) rfl rfl rfl (by decide +kernel)
set_option maxRecDepth 65536 in
theorem w_c4 : (Jvm.Cond.code ({ cls := "java/lang/Record", name := "<init>", desc := "()V" } : Jvm.MethodName) jdk_30_method_1_code (1 : Nat) (Option.none : Option Jvm.ClassFile.FieldType)).before args0 about1 = true := code_word (m := ⟨3, 0⟩) (meth := k3m0) (c := k3c0) (by decide +kernel) rfl rfl rfl (by decide +kernel)
set_option maxRecDepth 65536 in
theorem w_c5 : (Jvm.Cond.code ({ cls := "java/lang/Object", name := "<init>", desc := "()V" } : Jvm.MethodName) object_method_1_code (1 : Nat) (Option.none : Option Jvm.ClassFile.FieldType)).before args0 about1 = true := code_word (m := ⟨0, 0⟩) (meth := k0m0) (c := k0c0) (by decide +kernel) rfl rfl rfl (by decide +kernel)
set_option maxRecDepth 65536 in
theorem w_c6 : (Jvm.Cond.code ({ cls := "com/example/wakeline/wakeline/model/Box", name := "contains", desc := "(Lcom/example/wakeline/wakeline/model/Box;)Z" } : Jvm.MethodName) prog_34_method_4_code (2 : Nat) (Option.some Jvm.ClassFile.FieldType.boolean)).before args0 about1 = true := code_word (m := ⟨4, 1⟩) (meth := k4m1) (c := k4c1) (by decide +kernel) rfl rfl rfl (by decide +kernel)
set_option maxRecDepth 65536 in
theorem w_c7 : (Jvm.Cond.code ({ cls := "com/example/wakeline/wakeline/model/BoxContainsPinLaw", name := "in", desc := "(IIIIII)Z" } : Jvm.MethodName) method_2_code (6 : Nat) (Option.some Jvm.ClassFile.FieldType.boolean)).before args0 about1 = true := code_word (m := ⟨1, 1⟩) (meth := k1m1) (c := k1c1) (by decide +kernel) rfl rfl rfl (by decide +kernel)
def codes1 : List Jvm.Cond := [Jvm.Cond.code x code maxLocals ret, Jvm.Cond.code ({ cls := "java/lang/Math", name := "min", desc := "(II)I" } : Jvm.MethodName) jdk_29_method_69_code (2 : Nat) (Option.some Jvm.ClassFile.FieldType.int), Jvm.Cond.code ({ cls := "java/lang/Math", name := "max", desc := "(II)I" } : Jvm.MethodName) jdk_29_method_65_code (2 : Nat) (Option.some Jvm.ClassFile.FieldType.int), Jvm.Cond.code ({ cls := "com/example/wakeline/wakeline/model/Box", name := "<init>", desc := "(DDDD)V" } : Jvm.MethodName) prog_34_method_1_code (9 : Nat) (Option.none : Option Jvm.ClassFile.FieldType), Jvm.Cond.code ({ cls := "java/lang/Record", name := "<init>", desc := "()V" } : Jvm.MethodName) jdk_30_method_1_code (1 : Nat) (Option.none : Option Jvm.ClassFile.FieldType), Jvm.Cond.code ({ cls := "java/lang/Object", name := "<init>", desc := "()V" } : Jvm.MethodName) object_method_1_code (1 : Nat) (Option.none : Option Jvm.ClassFile.FieldType), Jvm.Cond.code ({ cls := "com/example/wakeline/wakeline/model/Box", name := "contains", desc := "(Lcom/example/wakeline/wakeline/model/Box;)Z" } : Jvm.MethodName) prog_34_method_4_code (2 : Nat) (Option.some Jvm.ClassFile.FieldType.boolean), Jvm.Cond.code ({ cls := "com/example/wakeline/wakeline/model/BoxContainsPinLaw", name := "in", desc := "(IIIIII)Z" } : Jvm.MethodName) method_2_code (6 : Nat) (Option.some Jvm.ClassFile.FieldType.boolean)]
set_option maxRecDepth 65536 in
theorem codes_eq : words1.filter isCode = codes1 := rfl
theorem w_codes : ∀ c ∈ words1.filter isCode, c.before args0 about1 = true := by
  rw [codes_eq]
  intro c hc
  simp only [codes1, List.mem_cons, List.not_mem_nil, or_false] at hc
  rcases hc with rfl | rfl | rfl | rfl | rfl | rfl | rfl | rfl
  · exact w_c0
  · exact w_c1
  · exact w_c2
  · exact w_c3
  · exact w_c4
  · exact w_c5
  · exact w_c6
  · exact w_c7
set_option maxRecDepth 65536 in
theorem w_t1 : (words1.take 24).all (fun c => isCode c || c.before args0 about1) = true := by decide +kernel
set_option maxRecDepth 65536 in
theorem w_t2 : (words1.drop 24).all (fun c => isCode c || c.before args0 about1) = true := by decide +kernel
theorem w_tables : (allAtoms (Jvm.Cond.code x code maxLocals ret :: tables_1)).before args0 about1 = true := by
  rw [allAtoms_all]
  show words1.all (fun c => c.before args0 about1) = true
  refine all_split ?_ w_codes
  rw [← List.take_append_drop 24 words1, List.all_append, w_t1, w_t2]
  rfl
set_option maxRecDepth 65536 in
theorem w_case : (Jvm.Cond.and given_1 narrow_1).before args0 about1 = true := by decide +kernel
theorem w_applies : (headSpec (Jvm.Cond.code x code maxLocals ret :: tables_1) room_1).applies x e0.platform about1 = true :=
  (Spec.applies_iff w_frames).mpr ⟨w_running, w_runnable, w_alone, w_named, w_hears, w_ripe, w_room, w_tables⟩
theorem atStart : AtStart classFile x code maxLocals ret World_1 tables_1 room_1 Calls_1 rest_1 Pre_1 launch0 p0 e0 about1 theMethod args0 below0 :=
  ⟨lists_1, trivial, launch0.admits_env _ _ _, launch0.least_env, fairChoices_fair.cas, fairChoices_fair.clock, w_frames, w_args, w_heap, w_applies, trivial, trivial, w_case⟩
end start1
theorem witness_1 : WitnessClaimed_1 := ⟨start1.p0, start1.e0, start1.about1, start1.theMethod, start1.args0, start1.below0, start1.atStart⟩
end Jvm.Pilot.@@N@@
