import JvmDerived
import JvmDerived.Pilot.@@N@@Statement
import JvmDerived.Pilot.@@N@@Code
set_option linter.unusedVariables false
set_option linter.unusedSimpArgs false
namespace Jvm.RoadKit
open Sem ClassFile Op Lib Jvm.Stand Jvm.Free Jvm.LawKit
section New
variable {p : Program} {l : Launch} {e : Env} {R : Room} {s : State} {m : MethodId} {args : Array Value} {below : List Frame} {meth : Method} {c : Code} {T : State} {locs : List Loc} {cells slots : Nat}
theorem retI (X : Stand p l e R s m args below meth c T locs cells slots) (hx : p.tables.exec = Jvm.exec) {pc : Nat} {Ls : Array Slot} {z : Int32} {rest : List Value} (hret : meth.sig.returnType = some .int) (hd : decode c.code pc = .ok (.ireturn, 1)) {fs : List Frame}
    (hl : ∀ (f : JFrame) (acts : List Action), f.method = m → f.locked = none → f.entered = [] → (doReturn e (T.setTop f) acts (some (.int z))).1 = T.setFrames fs) : Steps p.tables e below (T.setTop (mkF m pc Ls (.int z :: rest))) (T.setFrames fs) := by
  have hm' : T.vm.method? m = some meth := X.method'
  have hn : narrow .int (.int z) = .int z := rfl
  show Steps p.tables e below (T.setTop { method := m, pc := pc, locals := Ls, stack := _ :: rest, locked := none }) _
  jvm_step X.here [X.here.top, hx, hd, hm', hret, hn]
  first | (intro acts; rw [hl _ acts rfl rfl rfl]) | rw [hl _ _ rfl rfl rfl]
  exact Steps.refl _
theorem retJ (X : Stand p l e R s m args below meth c T locs cells slots) (hx : p.tables.exec = Jvm.exec) {pc : Nat} {Ls : Array Slot} {z : Int64} {rest : List Value} (hret : meth.sig.returnType = some .long) (hd : decode c.code pc = .ok (.lreturn, 1)) {fs : List Frame}
    (hl : ∀ (f : JFrame) (acts : List Action), f.method = m → f.locked = none → f.entered = [] → (doReturn e (T.setTop f) acts (some (.long z))).1 = T.setFrames fs) : Steps p.tables e below (T.setTop (mkF m pc Ls (.long z :: rest))) (T.setFrames fs) := by
  have hm' : T.vm.method? m = some meth := X.method'
  have hn : narrow .long (.long z) = .long z := rfl
  show Steps p.tables e below (T.setTop { method := m, pc := pc, locals := Ls, stack := _ :: rest, locked := none }) _
  jvm_step X.here [X.here.top, hx, hd, hm', hret, hn]
  first | (intro acts; rw [hl _ acts rfl rfl rfl]) | rw [hl _ _ rfl rfl rfl]
  exact Steps.refl _
end New
end Jvm.RoadKit
namespace Jvm.Pilot.@@N@@
open Jvm Jvm.ClassFile Sem Op Lib Jvm.Free Jvm.Stand Jvm.LawKit Jvm.RoadKit Bundle Jvm.Pilot.@@N@@.Jvm.D
theorem own_j1 {G : Prop} {A : Prop → Prop} (h1 : A G) (h2 : A G → G) : G := h2 h1
theorem own_sub1 {args : Array Value} {s : State} {idx : List Nat} {t : Term} {j : Int32} (h : t.eval args s none idx s = some (.int j)) : (Term.sub t (Term.int 128)).eval args s none idx s = some (.int (j - 128)) := by
  simp [Term.eval, h]
theorem own_cache {s : State} {args : Array Value} (w1 : (Jvm.Cond.initializedFor "java/lang/Integer$IntegerCache" "high" "I").before args s = true) (w2 : (Jvm.Cond.laysStatic "java/lang/Integer$IntegerCache" "cache" "[Ljava/lang/Integer;").before args s = true)
    (w3 : (Jvm.Cond.eq (Term.static "java/lang/Integer$IntegerCache" "high" "I") (Term.int 127)).before args s = true) (w4 : (Jvm.Cond.arrayOf (Term.static "java/lang/Integer$IntegerCache" "cache" "[Ljava/lang/Integer;") (.object "java/lang/Integer")).before args s = true)
    (w6 : (Jvm.Cond.eq (Term.length (Term.static "java/lang/Integer$IntegerCache" "cache" "[Ljava/lang/Integer;")) (Term.int 256)).before args s = true)
    (w7 : (Jvm.Cond.all (Term.static "java/lang/Integer$IntegerCache" "cache" "[Ljava/lang/Integer;") (Jvm.Cond.and (Jvm.Cond.exactly (Term.elem (Term.static "java/lang/Integer$IntegerCache" "cache" "[Ljava/lang/Integer;") (Term.index 0)) "java/lang/Integer") (Jvm.Cond.eq (Term.field (Term.elem (Term.static "java/lang/Integer$IntegerCache" "cache" "[Ljava/lang/Integer;") (Term.index 0)) "java/lang/Integer" "value" "I") (Term.sub (Term.index 0) (Term.int 128))))).before args s = true)
    (wi : (Jvm.Cond.initialized "java/lang/Integer$IntegerCache").before args s = true) :
    Sta s s.heap "java/lang/Integer$IntegerCache" "high" "I" (.int 127) ∧ ∃ (ca : Addr) (cc : Cell), Sta s s.heap "java/lang/Integer$IntegerCache" "cache" "[Ljava/lang/Integer;" (.ref ca) ∧ Bxs s ca cc "java/lang/Integer" "I" 256 (fun j => .int (j - 128)) := by
  have e1 := Jvm.Free.NT.SwA.eq_int w3
  have v4 := Cond.before_iff.mp w4
  obtain ⟨ca, ev⟩ := arr_v v4
  obtain ⟨cc, A⟩ := Arr.start ev v4
  obtain ⟨q, e⟩ := Jvm.Free.IntBox.length_fwd w6 ev A.1 A.2.1 A.2.2
  refine ⟨Sta.start e1 (Or.inl w1), ca, cc, Sta.start ev (Or.inr ⟨wi, w2⟩), Bxs.start (fun idx => by simpa only [Term.eval] using ev) A q e (by decide) (Cond.before_iff.mp w7) (fun X j nn h => eqv_i ?_ h)⟩
  exact own_sub1 (idx_at nn)
theorem own_nsK {Z : State} {a0 : Array Value} {K : String} {n : Nat} (w1 : (Jvm.Cond.superclass "java/lang/Integer" "java/lang/Number").before a0 Z = true) (w2 : (Jvm.Cond.superclass "java/lang/Number" "java/lang/Object").before a0 Z = true) (w3 : (Jvm.Cond.noSuperclass "java/lang/Object").before a0 Z = true) (wk : (Jvm.Cond.instantiable K n).before a0 Z = true)
    (n1 : "java/lang/Object" ≠ K) (n2 : "java/lang/Number" ≠ K) (n3 : "java/lang/Integer" ≠ K) : ∃ c t, Z.vm.findClass "java/lang/Integer" = some c ∧ Z.vm.findClass K = some t ∧ Z.vm.assignable c t = false := by
  obtain ⟨t, k', g1, g2, g3, g4, -⟩ := Cond.instantiable_spec wk
  have hroot : NS Z "java/lang/Object" K := by
    obtain ⟨c, k, h1, h2, h3, -, -⟩ := Cond.noSuperclass_spec w3
    have ne := ids_ne h1 g1 n1
    refine ⟨c, t, h1, g1, fun fuel => ?_⟩
    cases fuel with
    | zero => rfl
    | succ f => simp [Vm.isSubclassAux, ne, h2, h3]
  obtain ⟨c, t', h0, g0, nn⟩ := NS.step w1 (NS.step w2 hroot n2) n3
  cases g1.symm.trans g0
  obtain ⟨p, k, kp, -, h2, -, -, h5, -, -⟩ := Cond.superclass_spec h0 w1
  have ne := ids_ne h0 g1 n3
  have g7 : k'.isInterface = false := by
    simp only [Bool.or_eq_false_iff] at g4
    exact g4.1
  refine ⟨c, t, h0, g1, ?_⟩
  show Z.vm.assignableAux (255 + 1) c t = false
  simp [Vm.assignableAux, ne, h2, g2, h5, g3, g7, Vm.isSubclass, nn]
theorem own_idx {p1 : Int32} (h1 : ¬ p1 < (-128 : Int32)) (h2 : ¬ (127 : Int32) < p1) : ¬ ((p1 + (128 : Int32)) < 0) ∧ (p1 + (128 : Int32)) < 256 := by
  rw [Int32.lt_iff_toInt_lt] at *
  have a := c_iadd p1 128
  have b := rng32 (p1 + 128)
  have l1 : (-128 : Int32).toInt = -128 := rfl
  have l2 : (127 : Int32).toInt = 127 := rfl
  have l3 : (128 : Int32).toInt = 128 := rfl
  have l4 : (0 : Int32).toInt = 0 := rfl
  have l5 : (256 : Int32).toInt = 256 := rfl
  rw [Int32.lt_iff_toInt_lt, l4, l5]
  rw [l1] at h1
  rw [l2] at h2
  rw [l3] at a
  omega
theorem own_nars (x : Int32) : nar .short (x.toInt16.toInt32) = x.toInt16.toInt32 := by simp [nar]
def own_eq3 (a b c a' b' c' : Int32) : Int32 := if a = a' then (if b = b' then (if c = c' then 1 else 0) else 0) else 0
theorem own_eq3s (a b c : Int32) : own_eq3 a b c a b c = 1 := by rw [own_eq3, if_pos rfl, if_pos rfl, if_pos rfl]
theorem own_eq3c (a b c a' b' c' : Int32) : own_eq3 a' b' c' a b c = own_eq3 a b c a' b' c' := by
  rw [own_eq3, own_eq3]
  by_cases h1 : a = a'
  · rw [if_pos h1, if_pos h1.symm]
    by_cases h2 : b = b'
    · rw [if_pos h2, if_pos h2.symm]
      by_cases h3 : c = c'
      · rw [if_pos h3, if_pos h3.symm]
      · rw [if_neg h3, if_neg (fun q => h3 q.symm)]
    · rw [if_neg h2, if_neg (fun q => h2 q.symm)]
  · rw [if_neg h1, if_neg (fun q => h1 q.symm)]
theorem d7_0 : decode jdk_18_method_1_code 0 = .ok (.aload_n 0, 1) := by decide +kernel
theorem d7_1 : decode jdk_18_method_1_code 1 = .ok (.invokespecial 1, 3) := by decide +kernel
theorem d7_4 : decode jdk_18_method_1_code 4 = .ok (.return_, 1) := by decide +kernel
theorem pn_0 : plainName "java/lang/Number" = true := by first | (simp [plainName, overriddenIn]; done) | decide +kernel
theorem ef_rmN (m : MethodId) (x0 : Addr) : entryFrame m #[(.ref x0)] 1 = mkF m 0 #[.val (.ref x0)] [] := by first | (simp [entryFrame, mkF, argsToLocals, Value.category]; done) | rfl
def QrmN (Z : State) (a1 : Addr) (h0 : Heap) (n0 : Nat) (v : Option Value) (h : Heap) (L : List Loc) : Prop := v = none ∧ Fr n0 L ∧ h = h0
set_option maxRecDepth 65536 in
set_option maxHeartbeats 40000000 in
theorem rmN (l : Launch) (Z : State) (a0 : Array Value) (hw : ∀ d ∈ tables_1, d.before a0 Z = true) (ws : List Jvm.Cond) (a1 : Addr) (h0 : Heap) (n0 : Nat) (Z0 : n0 ≤ h0.size) :
    MetFree l (⟨"java/lang/Number", "<init>", "()V"⟩ : MethodName) (head1 (Jvm.Cond.code (⟨"java/lang/Number", "<init>", "()V"⟩ : MethodName) jdk_18_method_1_code 1 none :: ws) ({ frames := 1, cells := 0, slots := 0, locals := 12 } : Room)) (fun a U => a = #[(.ref a1)] ∧ Z.Warmed39 U.vm ∧ U.heap = h0) (fun _ _ _ _ _ => True) (fun _ U o U' => ∃ v L, o = .returned v ∧ QrmN Z a1 h0 n0 v U'.heap L ∧ FrameEnd U o U' L ({ frames := 1, cells := 0, slots := 0, locals := 12 } : Room).cells ({ frames := 1, cells := 0, slots := 0, locals := 12 } : Room).slots) := by
  refine MetFree.of_bodySF (plainFor_of_name pn_0) hisR ?_
  intro p e s m args below meth c s₁ Bd hml0 hP hK
  obtain ⟨rfl, hZ, hh⟩ := hP
  have hx := Bd.exec
  have hby := Bd.bytes
  have hml : c.maxLocals = 1 := hml0
  have hown : s.vm.findClass "java/lang/Number" = some m.cls := findClass_of_methodNamed Bd.named
  have hnm := (name_of_methodNamed Bd.named Bd.method).1
  have X0 : Stand p l e ({ frames := 1, cells := 0, slots := 0, locals := 12 } : Room) s m #[(.ref a1)] below meth c s₁ [] 0 0 := Stand.of_body Bd
  have e0 : s₁.heap = h0 := by rw [← hh, Bd.state]; rfl
  have N0 := Fr.nil n0
  have pre0 : ∀ t_, Steps p.tables e below (s₁.setTop (mkF m 0 #[.val (.ref a1)] [])) t_ → Steps p.tables e below (s₁.setTop (entryFrame m #[(.ref a1)] 1)) t_ := fun t_ k_ => castTop (ef_rmN m a1) k_
  obtain ⟨T101, X101, e101, st101⟩ := initO X0 hx hZ hown (hw _ (List.mem_of_getElem? (i := 43) rfl)) (hw _ (List.mem_of_getElem? (i := 12) rfl)) (hw _ (List.mem_of_getElem? (i := 13) rfl)) e0 (g := (mkF m 1 #[.val (.ref a1)] [(.ref a1)])) rfl (by rw [hml]; rfl) rfl (hb hby d7_1) (by decide) (W := 0) (by show 2 * 0 + _ ≤ _; exact Nat.le_of_eq rfl) (by decide)
  have pre102 : ∀ t_, Steps p.tables e below (T101.setTop (mkF m 4 #[.val (.ref a1)] [])) t_ → Steps p.tables e below (s₁.setTop (entryFrame m #[(.ref a1)] 1)) t_ := fun t_ k_ => pre0 _ (by
    show Steps p.tables e below (s₁.setTop (mkF m 0 #[.val (.ref a1)] [])) _
    refine XS.aloadN X0.here hx rfl (hb hby d7_0) rfl rfl ?_
    show Steps p.tables e below (s₁.setTop (mkF m 1 #[.val (.ref a1)] [(.ref a1)])) _
    refine st101 _ ?_
    exact k_)
  obtain ⟨fs, hr, hrun, hended, hW, hsame⟩ := X101.leave (v := none) (fun _ => rfl)
  refine ⟨_, _, pre102 _ ?_, hrun, hended, _, _, rfl, ?_, ⟨_, rfl⟩, hW, hsame.mono (by decide) (by decide)⟩
  · show Steps p.tables e below (T101.setTop (mkF m 4 #[.val (.ref a1)] [])) _
    exact X101.returnOut hx Bd.returns (hb hby d7_4) hr
  · show QrmN Z a1 h0 n0 _ T101.heap _
    rw [e101]
    exact ⟨rfl, N0, rfl⟩
theorem pd_0 : parseMethodDescriptor "()V" = some ⟨[], none⟩ := by decide +kernel
theorem d6_0 : decode jdk_33_method_23_code 0 = .ok (.aload_n 0, 1) := by decide +kernel
theorem d6_1 : decode jdk_33_method_23_code 1 = .ok (.invokespecial 202, 3) := by decide +kernel
theorem d6_4 : decode jdk_33_method_23_code 4 = .ok (.aload_n 0, 1) := by decide +kernel
theorem d6_5 : decode jdk_33_method_23_code 5 = .ok (.iload_n 1, 1) := by decide +kernel
theorem d6_6 : decode jdk_33_method_23_code 6 = .ok (.putfield 205, 3) := by decide +kernel
theorem d6_9 : decode jdk_33_method_23_code 9 = .ok (.return_, 1) := by decide +kernel
theorem pn_1 : plainName "java/lang/Integer" = true := by first | (simp [plainName, overriddenIn]; done) | decide +kernel
theorem ef_rmI (m : MethodId) (x0 : Addr) (x1 : Int32) : entryFrame m #[(.ref x0), (.int x1)] 2 = mkF m 0 #[.val (.ref x0), .val (.int x1)] [] := by first | (simp [entryFrame, mkF, argsToLocals, Value.category]; done) | rfl
def QrmI (Z : State) (a1 : Addr) (p2 : Int32) (h0 : Heap) (n0 : Nat) (v : Option Value) (h : Heap) (L : List Loc) : Prop := v = none ∧ Fr n0 L ∧ Keep h0 h [a1] ∧ Exa Z h a1 "java/lang/Integer"
set_option maxRecDepth 65536 in
set_option maxHeartbeats 40000000 in
theorem rmI (l : Launch) (Z : State) (a0 : Array Value) (hw : ∀ d ∈ tables_1, d.before a0 Z = true) (ws : List Jvm.Cond) (a1 : Addr) (p2 : Int32) (h0 : Heap) (n0 : Nat) (Z0 : n0 ≤ h0.size) (E_o : Exa Z h0 a1 "java/lang/Integer") (F_o : Fld Z h0 a1 "java/lang/Integer" "value" "I" (.int (0 : Int32))) (g_a1 : n0 ≤ a1) :
    MetFree l (⟨"java/lang/Integer", "<init>", "(I)V"⟩ : MethodName) (head1 (Jvm.Cond.code (⟨"java/lang/Integer", "<init>", "(I)V"⟩ : MethodName) jdk_33_method_23_code 2 none :: ws) ({ frames := 2, cells := 0, slots := 0, locals := 24 } : Room)) (fun a U => a = #[(.ref a1), (.int p2)] ∧ Z.Warmed39 U.vm ∧ U.heap = h0) (fun _ _ _ _ _ => True) (fun _ U o U' => ∃ v L, o = .returned v ∧ QrmI Z a1 p2 h0 n0 v U'.heap L ∧ FrameEnd U o U' L ({ frames := 2, cells := 0, slots := 0, locals := 24 } : Room).cells ({ frames := 2, cells := 0, slots := 0, locals := 24 } : Room).slots) := by
  refine MetFree.of_bodySF (plainFor_of_name pn_1) hisR ?_
  intro p e s m args below meth c s₁ Bd hml0 hP hK
  obtain ⟨rfl, hZ, hh⟩ := hP
  have hx := Bd.exec
  have hby := Bd.bytes
  have hml : c.maxLocals = 2 := hml0
  have hown : s.vm.findClass "java/lang/Integer" = some m.cls := findClass_of_methodNamed Bd.named
  have hnm := (name_of_methodNamed Bd.named Bd.method).1
  have X0 : Stand p l e ({ frames := 2, cells := 0, slots := 0, locals := 24 } : Room) s m #[(.ref a1), (.int p2)] below meth c s₁ [] 0 0 := Stand.of_body Bd
  have e0 : s₁.heap = h0 := by rw [← hh, Bd.state]; rfl
  have N0 := Fr.nil n0
  have pre0 : ∀ t_, Steps p.tables e below (s₁.setTop (mkF m 0 #[.val (.ref a1), .val (.int p2)] [])) t_ → Steps p.tables e below (s₁.setTop (entryFrame m #[(.ref a1), (.int p2)] 2)) t_ := fun t_ k_ => castTop (ef_rmI m a1 p2) k_
  obtain ⟨_, _, ⟨T101, L101, k101, n101⟩, -, X101, ⟨Lc101, hQ101, l101, y101, z101⟩, st101⟩ := X0.specialBack hx (y := (⟨"java/lang/Number", "<init>", "()V"⟩ : MethodName)) rfl hown (mvT hZ (hw _ (List.mem_of_getElem? (i := 37) rfl))) (mvT hZ (hw _ (List.mem_of_getElem? (i := 38) rfl))) (mvT hZ (hw _ (List.mem_of_getElem? (i := 42) rfl))) (by decide) (backOf (W := 0) (rmN l Z a0 hw [] a1 h0 n0 Z0 ) hZ (hw _ (List.mem_of_getElem? (i := 42) rfl)) (hw _ (List.mem_of_getElem? (i := 41) rfl)) (by decide) (by decide)) (g := (mkF m 1 #[.val (.ref a1), .val (.int p2)] [(.ref a1)])) rfl (by rw [hml]; rfl) (Steps.refl _) (a := a1) (argsL := []) (rest := []) (lenOf pd_0 rfl) rfl (by show 2 * 0 + _ ≤ _; exact Nat.le_of_eq rfl) (hb hby d6_1) (fun _ _ => ⟨rfl, e0, (by decide : 0 + 0 ≤ _), (by decide : 0 + 0 ≤ _)⟩)
  dsimp only [Pt.U, Pt.locs, Pt.cells, Pt.slots] at X101 l101 y101 z101 st101 hQ101
  subst l101 y101 z101
  obtain ⟨rfl, N101q, e101⟩ := hQ101
  have N101 := Fr.app N0 N101q
  obtain ⟨T102, h102, X102, e102, W102, st102⟩ := putF X101 hx hZ hown (host := "") (Or.inl (hw _ (List.mem_of_getElem? (i := 44) rfl))) Via.refl e101 F_o E_o (Or.inr ⟨(hw _ (List.mem_of_getElem? (i := 45) rfl)), rfl, hnm⟩) (hw _ (List.mem_of_getElem? (i := 32) rfl)) (ty := .int) (by decide) rfl rfl (g := (mkF m 6 #[.val (.ref a1), .val (.int p2)] [(.int p2), (.ref a1)])) rfl rfl (hb hby d6_6)
  have E_103 := E_o.wr W102
  have K_104 := (Keep.refl h0 [a1]).wr W102 (Or.inl (List.mem_of_getElem? (i := 0) rfl))
  have F_105 := F_o.same W102
  have N102 := Fr.snoc X102 N101 g_a1
  have Z106 : n0 ≤ h102.size := Nat.le_trans Z0 ((Keep.of_wr W102).1)
  have pre107 : ∀ t_, Steps p.tables e below (T102.setTop (mkF m 9 #[.val (.ref a1), .val (.int p2)] [])) t_ → Steps p.tables e below (s₁.setTop (entryFrame m #[(.ref a1), (.int p2)] 2)) t_ := fun t_ k_ => pre0 _ (by
    show Steps p.tables e below (s₁.setTop (mkF m 0 #[.val (.ref a1), .val (.int p2)] [])) _
    refine XS.aloadN X0.here hx rfl (hb hby d6_0) rfl rfl ?_
    show Steps p.tables e below (s₁.setTop (mkF m 1 #[.val (.ref a1), .val (.int p2)] [(.ref a1)])) _
    refine st101.trans ?_
    show Steps p.tables e below (T101.setTop (mkF m 4 #[.val (.ref a1), .val (.int p2)] [])) _
    refine XS.aloadN X101.here hx rfl (hb hby d6_4) rfl rfl ?_
    show Steps p.tables e below (T101.setTop (mkF m 5 #[.val (.ref a1), .val (.int p2)] [(.ref a1)])) _
    refine XS.iloadN X101.here hx rfl (hb hby d6_5) rfl ?_
    show Steps p.tables e below (T101.setTop (mkF m 6 #[.val (.ref a1), .val (.int p2)] [(.int p2), (.ref a1)])) _
    refine st102 _ ?_
    exact k_)
  obtain ⟨fs, hr, hrun, hended, hW, hsame⟩ := X102.leave (v := none) (fun _ => rfl)
  refine ⟨_, _, pre107 _ ?_, hrun, hended, _, _, rfl, ?_, ⟨_, rfl⟩, hW, hsame.mono (by decide) (by decide)⟩
  · show Steps p.tables e below (T102.setTop (mkF m 9 #[.val (.ref a1), .val (.int p2)] [])) _
    exact X102.returnOut hx Bd.returns (hb hby d6_9) hr
  · show QrmI Z a1 p2 h0 n0 _ T102.heap _
    rw [e102]
    exact ⟨rfl, N102, K_104, E_103⟩
theorem pd_1 : parseMethodDescriptor "(I)V" = some ⟨[.int], none⟩ := by decide +kernel
theorem d5_0 : decode jdk_33_method_22_code 0 = .ok (.iload_n 0, 1) := by decide +kernel
theorem d5_1 : decode jdk_33_method_22_code 1 = .ok (.bipush (-128), 2) := by decide +kernel
theorem d5_3 : decode jdk_33_method_22_code 3 = .ok (.if_icmp .lt 20, 3) := by decide +kernel
theorem d5_6 : decode jdk_33_method_22_code 6 = .ok (.iload_n 0, 1) := by decide +kernel
theorem d5_7 : decode jdk_33_method_22_code 7 = .ok (.getstatic 191, 3) := by decide +kernel
theorem d5_10 : decode jdk_33_method_22_code 10 = .ok (.if_icmp .gt 13, 3) := by decide +kernel
theorem d5_13 : decode jdk_33_method_22_code 13 = .ok (.getstatic 195, 3) := by decide +kernel
theorem d5_16 : decode jdk_33_method_22_code 16 = .ok (.iload_n 0, 1) := by decide +kernel
theorem d5_17 : decode jdk_33_method_22_code 17 = .ok (.sipush 128, 3) := by decide +kernel
theorem d5_20 : decode jdk_33_method_22_code 20 = .ok (.iadd, 1) := by decide +kernel
theorem d5_21 : decode jdk_33_method_22_code 21 = .ok (.aaload, 1) := by decide +kernel
theorem d5_22 : decode jdk_33_method_22_code 22 = .ok (.areturn, 1) := by decide +kernel
theorem d5_23 : decode jdk_33_method_22_code 23 = .ok (.new 1, 3) := by decide +kernel
theorem d5_26 : decode jdk_33_method_22_code 26 = .ok (.dup, 1) := by decide +kernel
theorem d5_27 : decode jdk_33_method_22_code 27 = .ok (.iload_n 0, 1) := by decide +kernel
theorem d5_28 : decode jdk_33_method_22_code 28 = .ok (.invokespecial 199, 3) := by decide +kernel
theorem d5_31 : decode jdk_33_method_22_code 31 = .ok (.areturn, 1) := by decide +kernel
theorem ef_rmV (m : MethodId) (x0 : Int32) : entryFrame m #[(.int x0)] 1 = mkF m 0 #[.val (.int x0)] [] := by first | (simp [entryFrame, mkF, argsToLocals, Value.category]; done) | rfl
def QrmV (Z : State) (p1 : Int32) (ca : Addr) (cc : Cell) (h0 : Heap) (n0 : Nat) (v : Option Value) (h : Heap) (L : List Loc) : Prop := ∃ b : Addr, v = some (.ref b) ∧ Fr n0 L ∧ Keep h0 h [] ∧ Exa Z h b "java/lang/Integer"
set_option maxRecDepth 65536 in
set_option maxHeartbeats 40000000 in
theorem rmV (l : Launch) (Z : State) (a0 : Array Value) (hw : ∀ d ∈ tables_1, d.before a0 Z = true) (ws : List Jvm.Cond) (p1 : Int32) (ca : Addr) (cc : Cell) (h0 : Heap) (n0 : Nat) (Z0 : n0 ≤ h0.size) (O : Old Z n0 h0) (S_high : Sta Z Z.heap "java/lang/Integer$IntegerCache" "high" "I" (.int (127 : Int32))) (S_cache : Sta Z Z.heap "java/lang/Integer$IntegerCache" "cache" "[Ljava/lang/Integer;" (.ref ca)) (B_c : Bxs Z ca cc "java/lang/Integer" "I" 256 (fun j => .int (j - 128))) :
    MetFree l (⟨"java/lang/Integer", "valueOf", "(I)Ljava/lang/Integer;"⟩ : MethodName) (head1 (Jvm.Cond.code (⟨"java/lang/Integer", "valueOf", "(I)Ljava/lang/Integer;"⟩ : MethodName) jdk_33_method_22_code 1 (some (.object "java/lang/Integer")) :: ws) ({ frames := 3, cells := 1, slots := 1, locals := 38 } : Room)) (fun a U => a = #[(.int p1)] ∧ Z.Warmed39 U.vm ∧ U.heap = h0) (fun _ _ _ _ _ => True) (fun _ U o U' => ∃ v L, o = .returned v ∧ QrmV Z p1 ca cc h0 n0 v U'.heap L ∧ FrameEnd U o U' L ({ frames := 3, cells := 1, slots := 1, locals := 38 } : Room).cells ({ frames := 3, cells := 1, slots := 1, locals := 38 } : Room).slots) := by
  refine MetFree.of_bodySF (plainFor_of_name pn_1) hisR ?_
  intro p e s m args below meth c s₁ Bd hml0 hP hK
  obtain ⟨rfl, hZ, hh⟩ := hP
  have hx := Bd.exec
  have hby := Bd.bytes
  have hml : c.maxLocals = 1 := hml0
  have hown : s.vm.findClass "java/lang/Integer" = some m.cls := findClass_of_methodNamed Bd.named
  have hnm := (name_of_methodNamed Bd.named Bd.method).1
  have X0 : Stand p l e ({ frames := 3, cells := 1, slots := 1, locals := 38 } : Room) s m #[(.int p1)] below meth c s₁ [] 0 0 := Stand.of_body Bd
  have e0 : s₁.heap = h0 := by rw [← hh, Bd.state]; rfl
  have N0 := Fr.nil n0
  have pre0 : ∀ t_, Steps p.tables e below (s₁.setTop (mkF m 0 #[.val (.int p1)] [])) t_ → Steps p.tables e below (s₁.setTop (entryFrame m #[(.int p1)] 1)) t_ := fun t_ k_ => castTop (ef_rmV m p1) k_
  have pre101 : ∀ t_, Steps p.tables e below (s₁.setTop (mkF m 3 #[.val (.int p1)] [(.int (-128 : Int32)), (.int p1)])) t_ → Steps p.tables e below (s₁.setTop (entryFrame m #[(.int p1)] 1)) t_ := fun t_ k_ => pre0 _ (by
    show Steps p.tables e below (s₁.setTop (mkF m 0 #[.val (.int p1)] [])) _
    refine XS.iloadN X0.here hx rfl (hb hby d5_0) rfl ?_
    show Steps p.tables e below (s₁.setTop (mkF m 1 #[.val (.int p1)] [(.int p1)])) _
    refine XS.bipush X0.here hx rfl (hb hby d5_1) ?_
    exact k_)
  by_cases hc1 : p1 < (-128 : Int32)
  · skip
    obtain ⟨T102, h102, X102, e102, Ext_b, E_b, D_b, -, st102⟩ := newO X0 hx hZ hown (hw _ (List.mem_of_getElem? (i := 31) rfl)) (hw _ (List.mem_of_getElem? (i := 32) rfl)) (hw _ (List.mem_of_getElem? (i := 29) rfl)) e0 (g := (mkF m 23 #[.val (.int p1)] [])) rfl (hb hby d5_23) (by decide) (by decide)
    obtain ⟨b, eq_b⟩ : ∃ z, z = h0.size := ⟨_, rfl⟩
    rw [← eq_b] at E_b D_b st102
    have g_b : n0 ≤ b := Nat.le_trans Z0 (Nat.le_of_eq eq_b.symm)
    have Z103 : n0 ≤ h102.size := Nat.le_trans Z0 (Ext_b.1)
    have F_b : Fld Z h102 b "java/lang/Integer" "value" "I" (.int (0 : Int32)) := D_b (Or.inr (hw _ (List.mem_of_getElem? (i := 45) rfl))) (ty := .int) (by decide)
    obtain ⟨_, _, ⟨T104, L104, k104, n104⟩, -, X104, ⟨Lc104, hQ104, l104, y104, z104⟩, st104⟩ := X102.specialBack hx (y := (⟨"java/lang/Integer", "<init>", "(I)V"⟩ : MethodName)) rfl hown (mvT hZ (hw _ (List.mem_of_getElem? (i := 33) rfl))) (mvT hZ (hw _ (List.mem_of_getElem? (i := 34) rfl))) (mvT hZ (hw _ (List.mem_of_getElem? (i := 36) rfl))) (by decide) (backOf (W := 1) (rmI l Z a0 hw [] b p1 h102 n0 Z103 E_b F_b g_b) hZ (hw _ (List.mem_of_getElem? (i := 36) rfl)) (hw _ (List.mem_of_getElem? (i := 29) rfl)) (by decide) (by decide)) (g := (mkF m 28 #[.val (.int p1)] [(.int p1), (.ref b), (.ref b)])) rfl (by rw [hml]; rfl) (Steps.refl _) (a := b) (argsL := [(.int p1)]) (rest := [(.ref b)]) (lenOf pd_1 rfl) rfl (by show 2 * 0 + _ ≤ _; exact Nat.le_of_eq rfl) (hb hby d5_28) (fun _ _ => ⟨rfl, e102, (by decide : 1 + 0 ≤ _), (by decide : 1 + 0 ≤ _)⟩)
    dsimp only [Pt.U, Pt.locs, Pt.cells, Pt.slots] at X104 l104 y104 z104 st104 hQ104
    subst l104 y104 z104
    obtain ⟨rfl, N104q, K104, E104⟩ := hQ104
    have N104 := Fr.app N0 N104q
    have pre105 : ∀ t_, Steps p.tables e below (T104.setTop (mkF m 31 #[.val (.int p1)] [(.ref b)])) t_ → Steps p.tables e below (s₁.setTop (entryFrame m #[(.int p1)] 1)) t_ := fun t_ k_ => pre101 _ (by
      show Steps p.tables e below (s₁.setTop (mkF m 3 #[.val (.int p1)] [(.int (-128 : Int32)), (.int p1)])) _
      refine XS.icmpYes X0.here hx rfl (pc0 := 3) (pc' := 23) rfl (hb hby d5_3) rfl (tlt hc1).1 (by decide) (by decide) ?_
      show Steps p.tables e below (s₁.setTop (mkF m 23 #[.val (.int p1)] [])) _
      refine st102 _ ?_
      show Steps p.tables e below (T102.setTop (mkF m 26 #[.val (.int p1)] [(.ref b)])) _
      refine XS.dup X102.here hx rfl (hb hby d5_26) rfl rfl ?_
      show Steps p.tables e below (T102.setTop (mkF m 27 #[.val (.int p1)] [(.ref b), (.ref b)])) _
      refine XS.iloadN X102.here hx rfl (hb hby d5_27) rfl ?_
      show Steps p.tables e below (T102.setTop (mkF m 28 #[.val (.int p1)] [(.int p1), (.ref b), (.ref b)])) _
      refine st104.trans ?_
      exact k_)
    obtain ⟨fs, hr, hrun, hended, hW, hsame⟩ := X104.leave (v := some (.ref b)) (fun h => by rw [Bd.returns] at h; cases h)
    refine ⟨_, _, pre105 _ ?_, hrun, hended, _, _, rfl, ?_, ⟨_, rfl⟩, hW, hsame.mono (by decide) (by decide)⟩
    · show Steps p.tables e below (T104.setTop (mkF m 31 #[.val (.int p1)] [(.ref b)])) _
      jvm_step X104.here [X104.here.top, hx, (hb hby d5_31), X104.method', Bd.returns, Value.isRef, FieldType.isReference]
      first | (intro acts; rw [hr _ acts rfl rfl rfl]) | rw [hr _ _ rfl rfl rfl]
      exact Steps.refl _
    · show QrmV Z p1 ca cc h0 n0 _ T104.heap _
      exact ⟨b, rfl, N104, ((Keep.refl h0 []).ext Ext_b).trans K104 (allS (Or.inr (Nat.le_of_eq eq_b.symm)) all0), E104⟩
  · skip
    obtain ⟨T106, X106, e106, st106⟩ := getS2 X0 hx hZ hown (host := "") (Or.inl (hw _ (List.mem_of_getElem? (i := 49) rfl))) Via.refl e0 (S_high.ext O.2) (g := (mkF m 7 #[.val (.int p1)] [(.int p1)])) rfl (hb hby d5_7)
    have pre107 : ∀ t_, Steps p.tables e below (T106.setTop (mkF m 10 #[.val (.int p1)] [(.int (127 : Int32)), (.int p1)])) t_ → Steps p.tables e below (s₁.setTop (entryFrame m #[(.int p1)] 1)) t_ := fun t_ k_ => pre101 _ (by
      show Steps p.tables e below (s₁.setTop (mkF m 3 #[.val (.int p1)] [(.int (-128 : Int32)), (.int p1)])) _
      refine XS.icmpNo X0.here hx rfl (hb hby d5_3) rfl (flt hc1).1 ?_
      show Steps p.tables e below (s₁.setTop (mkF m 6 #[.val (.int p1)] [])) _
      refine XS.iloadN X0.here hx rfl (hb hby d5_6) rfl ?_
      show Steps p.tables e below (s₁.setTop (mkF m 7 #[.val (.int p1)] [(.int p1)])) _
      refine st106 _ ?_
      exact k_)
    by_cases hc2 : (127 : Int32) < p1
    · skip
      obtain ⟨T108, h108, X108, e108, Ext_b, E_b, D_b, -, st108⟩ := newO X106 hx hZ hown (hw _ (List.mem_of_getElem? (i := 31) rfl)) (hw _ (List.mem_of_getElem? (i := 32) rfl)) (hw _ (List.mem_of_getElem? (i := 29) rfl)) e106 (g := (mkF m 23 #[.val (.int p1)] [])) rfl (hb hby d5_23) (by decide) (by decide)
      obtain ⟨b, eq_b⟩ : ∃ z, z = h0.size := ⟨_, rfl⟩
      rw [← eq_b] at E_b D_b st108
      have g_b : n0 ≤ b := Nat.le_trans Z0 (Nat.le_of_eq eq_b.symm)
      have Z109 : n0 ≤ h108.size := Nat.le_trans Z0 (Ext_b.1)
      have F_b : Fld Z h108 b "java/lang/Integer" "value" "I" (.int (0 : Int32)) := D_b (Or.inr (hw _ (List.mem_of_getElem? (i := 45) rfl))) (ty := .int) (by decide)
      obtain ⟨_, _, ⟨T110, L110, k110, n110⟩, -, X110, ⟨Lc110, hQ110, l110, y110, z110⟩, st110⟩ := X108.specialBack hx (y := (⟨"java/lang/Integer", "<init>", "(I)V"⟩ : MethodName)) rfl hown (mvT hZ (hw _ (List.mem_of_getElem? (i := 33) rfl))) (mvT hZ (hw _ (List.mem_of_getElem? (i := 34) rfl))) (mvT hZ (hw _ (List.mem_of_getElem? (i := 36) rfl))) (by decide) (backOf (W := 1) (rmI l Z a0 hw [] b p1 h108 n0 Z109 E_b F_b g_b) hZ (hw _ (List.mem_of_getElem? (i := 36) rfl)) (hw _ (List.mem_of_getElem? (i := 29) rfl)) (by decide) (by decide)) (g := (mkF m 28 #[.val (.int p1)] [(.int p1), (.ref b), (.ref b)])) rfl (by rw [hml]; rfl) (Steps.refl _) (a := b) (argsL := [(.int p1)]) (rest := [(.ref b)]) (lenOf pd_1 rfl) rfl (by show 2 * 0 + _ ≤ _; exact Nat.le_of_eq rfl) (hb hby d5_28) (fun _ _ => ⟨rfl, e108, (by decide : 1 + 0 ≤ _), (by decide : 1 + 0 ≤ _)⟩)
      dsimp only [Pt.U, Pt.locs, Pt.cells, Pt.slots] at X110 l110 y110 z110 st110 hQ110
      subst l110 y110 z110
      obtain ⟨rfl, N110q, K110, E110⟩ := hQ110
      have N110 := Fr.app N0 N110q
      have pre111 : ∀ t_, Steps p.tables e below (T110.setTop (mkF m 31 #[.val (.int p1)] [(.ref b)])) t_ → Steps p.tables e below (s₁.setTop (entryFrame m #[(.int p1)] 1)) t_ := fun t_ k_ => pre107 _ (by
        show Steps p.tables e below (T106.setTop (mkF m 10 #[.val (.int p1)] [(.int (127 : Int32)), (.int p1)])) _
        refine XS.icmpYes X106.here hx rfl (pc0 := 10) (pc' := 23) rfl (hb hby d5_10) rfl (tlt hc2).2.2.1 (by decide) (by decide) ?_
        show Steps p.tables e below (T106.setTop (mkF m 23 #[.val (.int p1)] [])) _
        refine st108 _ ?_
        show Steps p.tables e below (T108.setTop (mkF m 26 #[.val (.int p1)] [(.ref b)])) _
        refine XS.dup X108.here hx rfl (hb hby d5_26) rfl rfl ?_
        show Steps p.tables e below (T108.setTop (mkF m 27 #[.val (.int p1)] [(.ref b), (.ref b)])) _
        refine XS.iloadN X108.here hx rfl (hb hby d5_27) rfl ?_
        show Steps p.tables e below (T108.setTop (mkF m 28 #[.val (.int p1)] [(.int p1), (.ref b), (.ref b)])) _
        refine st110.trans ?_
        exact k_)
      obtain ⟨fs, hr, hrun, hended, hW, hsame⟩ := X110.leave (v := some (.ref b)) (fun h => by rw [Bd.returns] at h; cases h)
      refine ⟨_, _, pre111 _ ?_, hrun, hended, _, _, rfl, ?_, ⟨_, rfl⟩, hW, hsame.mono (by decide) (by decide)⟩
      · show Steps p.tables e below (T110.setTop (mkF m 31 #[.val (.int p1)] [(.ref b)])) _
        jvm_step X110.here [X110.here.top, hx, (hb hby d5_31), X110.method', Bd.returns, Value.isRef, FieldType.isReference]
        first | (intro acts; rw [hr _ acts rfl rfl rfl]) | rw [hr _ _ rfl rfl rfl]
        exact Steps.refl _
      · show QrmV Z p1 ca cc h0 n0 _ T110.heap _
        exact ⟨b, rfl, N110, ((Keep.refl h0 []).ext Ext_b).trans K110 (allS (Or.inr (Nat.le_of_eq eq_b.symm)) all0), E110⟩
    · skip
      obtain ⟨T112, X112, e112, st112⟩ := getS2 X106 hx hZ hown (host := "") (Or.inl (hw _ (List.mem_of_getElem? (i := 51) rfl))) Via.refl e106 (S_cache.ext O.2) (g := (mkF m 13 #[.val (.int p1)] [])) rfl (hb hby d5_13)
      obtain ⟨A_c, Sz, Ng⟩ := B_c.ext O.2
      have hin : ¬ ((p1 + (128 : Int32)) < 0 ∨ cc.slots.size ≤ (p1 + (128 : Int32)).toNatClampNeg) := inb_of Sz (own_idx hc1 hc2)
      obtain ⟨bx, hat, E_bx, -⟩ := B_c.2.2.2 _ hin
      have pre113 : ∀ t_, Steps p.tables e below (T112.setTop (mkF m 22 #[.val (.int p1)] [(.ref bx)])) t_ → Steps p.tables e below (s₁.setTop (entryFrame m #[(.int p1)] 1)) t_ := fun t_ k_ => pre107 _ (by
        show Steps p.tables e below (T106.setTop (mkF m 10 #[.val (.int p1)] [(.int (127 : Int32)), (.int p1)])) _
        refine XS.icmpNo X106.here hx rfl (hb hby d5_10) rfl (flt hc2).2.2.1 ?_
        show Steps p.tables e below (T106.setTop (mkF m 13 #[.val (.int p1)] [])) _
        refine st112 _ ?_
        show Steps p.tables e below (T112.setTop (mkF m 16 #[.val (.int p1)] [(.ref ca)])) _
        refine XS.iloadN X112.here hx rfl (hb hby d5_16) rfl ?_
        show Steps p.tables e below (T112.setTop (mkF m 17 #[.val (.int p1)] [(.int p1), (.ref ca)])) _
        refine XS.sipush X112.here hx rfl (hb hby d5_17) ?_
        show Steps p.tables e below (T112.setTop (mkF m 20 #[.val (.int p1)] [(.int (128 : Int32)), (.int p1), (.ref ca)])) _
        refine XS.iadd X112.here hx rfl (hb hby d5_20) rfl ?_
        show Steps p.tables e below (T112.setTop (mkF m 21 #[.val (.int p1)] [(.int (p1 + (128 : Int32))), (.ref ca)])) _
        refine X112.aaload hx (j := (p1 + (128 : Int32))) (v := (.ref bx)) (by rw [e112]; exact A_c.1) (State.isArrayOf_alike hZ.alike A_c.2.1) rfl A_c.2.2 hin hat (g := (mkF m 21 #[.val (.int p1)] [(.int (p1 + (128 : Int32))), (.ref ca)])) rfl rfl (hb hby d5_21) _ ?_
        exact k_)
      obtain ⟨fs, hr, hrun, hended, hW, hsame⟩ := X112.leave (v := some (.ref bx)) (fun h => by rw [Bd.returns] at h; cases h)
      refine ⟨_, _, pre113 _ ?_, hrun, hended, _, _, rfl, ?_, ⟨_, rfl⟩, hW, hsame.mono (by decide) (by decide)⟩
      · show Steps p.tables e below (T112.setTop (mkF m 22 #[.val (.int p1)] [(.ref bx)])) _
        jvm_step X112.here [X112.here.top, hx, (hb hby d5_22), X112.method', Bd.returns, Value.isRef, FieldType.isReference]
        first | (intro acts; rw [hr _ acts rfl rfl rfl]) | rw [hr _ _ rfl rfl rfl]
        exact Steps.refl _
      · show QrmV Z p1 ca cc h0 n0 _ T112.heap _
        rw [e112]
        exact ⟨bx, rfl, N0, Keep.refl _ _, E_bx.ext O.2⟩
theorem d2_0 : decode prog_211_method_1_code 0 = .ok (.aload_n 0, 1) := by decide +kernel
theorem d2_1 : decode prog_211_method_1_code 1 = .ok (.invokespecial 1, 3) := by decide +kernel
theorem d2_4 : decode prog_211_method_1_code 4 = .ok (.return_, 1) := by decide +kernel
theorem pn_2 : plainName "com/example/termite/termite/protocol/Structure" = true := by first | (simp [plainName, overriddenIn]; done) | decide +kernel
theorem ef_rmS (m : MethodId) (x0 : Addr) : entryFrame m #[(.ref x0)] 1 = mkF m 0 #[.val (.ref x0)] [] := by first | (simp [entryFrame, mkF, argsToLocals, Value.category]; done) | rfl
def QrmS (Z : State) (a1 : Addr) (h0 : Heap) (n0 : Nat) (v : Option Value) (h : Heap) (L : List Loc) : Prop := v = none ∧ Fr n0 L ∧ h = h0
set_option maxRecDepth 65536 in
set_option maxHeartbeats 40000000 in
theorem rmS (l : Launch) (Z : State) (a0 : Array Value) (hw : ∀ d ∈ tables_1, d.before a0 Z = true) (ws : List Jvm.Cond) (a1 : Addr) (h0 : Heap) (n0 : Nat) (Z0 : n0 ≤ h0.size) :
    MetFree l (⟨"com/example/termite/termite/protocol/Structure", "<init>", "()V"⟩ : MethodName) (head1 (Jvm.Cond.code (⟨"com/example/termite/termite/protocol/Structure", "<init>", "()V"⟩ : MethodName) prog_211_method_1_code 1 none :: ws) ({ frames := 1, cells := 0, slots := 0, locals := 12 } : Room)) (fun a U => a = #[(.ref a1)] ∧ Z.Warmed39 U.vm ∧ U.heap = h0) (fun _ _ _ _ _ => True) (fun _ U o U' => ∃ v L, o = .returned v ∧ QrmS Z a1 h0 n0 v U'.heap L ∧ FrameEnd U o U' L ({ frames := 1, cells := 0, slots := 0, locals := 12 } : Room).cells ({ frames := 1, cells := 0, slots := 0, locals := 12 } : Room).slots) := by
  refine MetFree.of_bodySF (plainFor_of_name pn_2) hisR ?_
  intro p e s m args below meth c s₁ Bd hml0 hP hK
  obtain ⟨rfl, hZ, hh⟩ := hP
  have hx := Bd.exec
  have hby := Bd.bytes
  have hml : c.maxLocals = 1 := hml0
  have hown : s.vm.findClass "com/example/termite/termite/protocol/Structure" = some m.cls := findClass_of_methodNamed Bd.named
  have hnm := (name_of_methodNamed Bd.named Bd.method).1
  have X0 : Stand p l e ({ frames := 1, cells := 0, slots := 0, locals := 12 } : Room) s m #[(.ref a1)] below meth c s₁ [] 0 0 := Stand.of_body Bd
  have e0 : s₁.heap = h0 := by rw [← hh, Bd.state]; rfl
  have N0 := Fr.nil n0
  have pre0 : ∀ t_, Steps p.tables e below (s₁.setTop (mkF m 0 #[.val (.ref a1)] [])) t_ → Steps p.tables e below (s₁.setTop (entryFrame m #[(.ref a1)] 1)) t_ := fun t_ k_ => castTop (ef_rmS m a1) k_
  obtain ⟨T101, X101, e101, st101⟩ := initO X0 hx hZ hown (hw _ (List.mem_of_getElem? (i := 11) rfl)) (hw _ (List.mem_of_getElem? (i := 12) rfl)) (hw _ (List.mem_of_getElem? (i := 13) rfl)) e0 (g := (mkF m 1 #[.val (.ref a1)] [(.ref a1)])) rfl (by rw [hml]; rfl) rfl (hb hby d2_1) (by decide) (W := 0) (by show 2 * 0 + _ ≤ _; exact Nat.le_of_eq rfl) (by decide)
  have pre102 : ∀ t_, Steps p.tables e below (T101.setTop (mkF m 4 #[.val (.ref a1)] [])) t_ → Steps p.tables e below (s₁.setTop (entryFrame m #[(.ref a1)] 1)) t_ := fun t_ k_ => pre0 _ (by
    show Steps p.tables e below (s₁.setTop (mkF m 0 #[.val (.ref a1)] [])) _
    refine XS.aloadN X0.here hx rfl (hb hby d2_0) rfl rfl ?_
    show Steps p.tables e below (s₁.setTop (mkF m 1 #[.val (.ref a1)] [(.ref a1)])) _
    refine st101 _ ?_
    exact k_)
  obtain ⟨fs, hr, hrun, hended, hW, hsame⟩ := X101.leave (v := none) (fun _ => rfl)
  refine ⟨_, _, pre102 _ ?_, hrun, hended, _, _, rfl, ?_, ⟨_, rfl⟩, hW, hsame.mono (by decide) (by decide)⟩
  · show Steps p.tables e below (T101.setTop (mkF m 4 #[.val (.ref a1)] [])) _
    exact X101.returnOut hx Bd.returns (hb hby d2_4) hr
  · show QrmS Z a1 h0 n0 _ T101.heap _
    rw [e101]
    exact ⟨rfl, N0, rfl⟩
theorem d1_0 : decode prog_83_method_2_code 0 = .ok (.aload_n 0, 1) := by decide +kernel
theorem d1_1 : decode prog_83_method_2_code 1 = .ok (.invokespecial 1, 3) := by decide +kernel
theorem d1_4 : decode prog_83_method_2_code 4 = .ok (.aload_n 0, 1) := by decide +kernel
theorem d1_5 : decode prog_83_method_2_code 5 = .ok (.iload_n 1, 1) := by decide +kernel
theorem d1_6 : decode prog_83_method_2_code 6 = .ok (.putfield 7, 3) := by decide +kernel
theorem d1_9 : decode prog_83_method_2_code 9 = .ok (.aload_n 0, 1) := by decide +kernel
theorem d1_10 : decode prog_83_method_2_code 10 = .ok (.iload_n 2, 1) := by decide +kernel
theorem d1_11 : decode prog_83_method_2_code 11 = .ok (.putfield 13, 3) := by decide +kernel
theorem d1_14 : decode prog_83_method_2_code 14 = .ok (.aload_n 0, 1) := by decide +kernel
theorem d1_15 : decode prog_83_method_2_code 15 = .ok (.iload_n 3, 1) := by decide +kernel
theorem d1_16 : decode prog_83_method_2_code 16 = .ok (.putfield 16, 3) := by decide +kernel
theorem d1_19 : decode prog_83_method_2_code 19 = .ok (.return_, 1) := by decide +kernel
theorem pn_3 : plainName "com/example/termite/termite/protocol/ApiVersionsResponse$VersionRange" = true := by first | (simp [plainName, overriddenIn]; done) | decide +kernel
theorem ef_rmC (m : MethodId) (x0 : Addr) (x1 : Int32) (x2 : Int32) (x3 : Int32) : entryFrame m #[(.ref x0), (.int x1), (.int x2), (.int x3)] 4 = mkF m 0 #[.val (.ref x0), .val (.int x1), .val (.int x2), .val (.int x3)] [] := by first | (simp [entryFrame, mkF, argsToLocals, Value.category]; done) | rfl
def QrmC (Z : State) (a1 : Addr) (p2 : Int32) (p3 : Int32) (p4 : Int32) (h0 : Heap) (n0 : Nat) (v : Option Value) (h : Heap) (L : List Loc) : Prop := v = none ∧ Fr n0 L ∧ Keep h0 h [a1] ∧ Exa Z h a1 "com/example/termite/termite/protocol/ApiVersionsResponse$VersionRange" ∧ Fld Z h a1 "com/example/termite/termite/protocol/ApiVersionsResponse$VersionRange" "apiKey" "S" (.int (nar .short p2)) ∧ Fld Z h a1 "com/example/termite/termite/protocol/ApiVersionsResponse$VersionRange" "minVersion" "S" (.int (nar .short p3)) ∧ Fld Z h a1 "com/example/termite/termite/protocol/ApiVersionsResponse$VersionRange" "maxVersion" "S" (.int (nar .short p4))
set_option maxRecDepth 65536 in
set_option maxHeartbeats 40000000 in
theorem rmC (l : Launch) (Z : State) (a0 : Array Value) (hw : ∀ d ∈ tables_1, d.before a0 Z = true) (ws : List Jvm.Cond) (a1 : Addr) (p2 : Int32) (p3 : Int32) (p4 : Int32) (h0 : Heap) (n0 : Nat) (Z0 : n0 ≤ h0.size) (E_o : Exa Z h0 a1 "com/example/termite/termite/protocol/ApiVersionsResponse$VersionRange") (F_0 : Fld Z h0 a1 "com/example/termite/termite/protocol/ApiVersionsResponse$VersionRange" "apiKey" "S" (.int (0 : Int32))) (F_1 : Fld Z h0 a1 "com/example/termite/termite/protocol/ApiVersionsResponse$VersionRange" "minVersion" "S" (.int (0 : Int32))) (F_2 : Fld Z h0 a1 "com/example/termite/termite/protocol/ApiVersionsResponse$VersionRange" "maxVersion" "S" (.int (0 : Int32))) (g_a1 : n0 ≤ a1) :
    MetFree l (⟨"com/example/termite/termite/protocol/ApiVersionsResponse$VersionRange", "<init>", "(SSS)V"⟩ : MethodName) (head1 (Jvm.Cond.code (⟨"com/example/termite/termite/protocol/ApiVersionsResponse$VersionRange", "<init>", "(SSS)V"⟩ : MethodName) prog_83_method_2_code 4 none :: ws) ({ frames := 2, cells := 0, slots := 0, locals := 24 } : Room)) (fun a U => a = #[(.ref a1), (.int p2), (.int p3), (.int p4)] ∧ Z.Warmed39 U.vm ∧ U.heap = h0) (fun _ _ _ _ _ => True) (fun _ U o U' => ∃ v L, o = .returned v ∧ QrmC Z a1 p2 p3 p4 h0 n0 v U'.heap L ∧ FrameEnd U o U' L ({ frames := 2, cells := 0, slots := 0, locals := 24 } : Room).cells ({ frames := 2, cells := 0, slots := 0, locals := 24 } : Room).slots) := by
  refine MetFree.of_bodySF (plainFor_of_name pn_3) hisR ?_
  intro p e s m args below meth c s₁ Bd hml0 hP hK
  obtain ⟨rfl, hZ, hh⟩ := hP
  have hx := Bd.exec
  have hby := Bd.bytes
  have hml : c.maxLocals = 4 := hml0
  have hown : s.vm.findClass "com/example/termite/termite/protocol/ApiVersionsResponse$VersionRange" = some m.cls := findClass_of_methodNamed Bd.named
  have hnm := (name_of_methodNamed Bd.named Bd.method).1
  have X0 : Stand p l e ({ frames := 2, cells := 0, slots := 0, locals := 24 } : Room) s m #[(.ref a1), (.int p2), (.int p3), (.int p4)] below meth c s₁ [] 0 0 := Stand.of_body Bd
  have e0 : s₁.heap = h0 := by rw [← hh, Bd.state]; rfl
  have N0 := Fr.nil n0
  have pre0 : ∀ t_, Steps p.tables e below (s₁.setTop (mkF m 0 #[.val (.ref a1), .val (.int p2), .val (.int p3), .val (.int p4)] [])) t_ → Steps p.tables e below (s₁.setTop (entryFrame m #[(.ref a1), (.int p2), (.int p3), (.int p4)] 4)) t_ := fun t_ k_ => castTop (ef_rmC m a1 p2 p3 p4) k_
  obtain ⟨_, _, ⟨T101, L101, k101, n101⟩, -, X101, ⟨Lc101, hQ101, l101, y101, z101⟩, st101⟩ := X0.specialBack hx (y := (⟨"com/example/termite/termite/protocol/Structure", "<init>", "()V"⟩ : MethodName)) rfl hown (mvT hZ (hw _ (List.mem_of_getElem? (i := 6) rfl))) (mvT hZ (hw _ (List.mem_of_getElem? (i := 7) rfl))) (mvT hZ (hw _ (List.mem_of_getElem? (i := 10) rfl))) (by decide) (backOf (W := 0) (rmS l Z a0 hw [] a1 h0 n0 Z0 ) hZ (hw _ (List.mem_of_getElem? (i := 10) rfl)) (hw _ (List.mem_of_getElem? (i := 9) rfl)) (by decide) (by decide)) (g := (mkF m 1 #[.val (.ref a1), .val (.int p2), .val (.int p3), .val (.int p4)] [(.ref a1)])) rfl (by rw [hml]; rfl) (Steps.refl _) (a := a1) (argsL := []) (rest := []) (lenOf pd_0 rfl) rfl (by show 2 * 0 + _ ≤ _; exact Nat.le_of_eq rfl) (hb hby d1_1) (fun _ _ => ⟨rfl, e0, (by decide : 0 + 0 ≤ _), (by decide : 0 + 0 ≤ _)⟩)
  dsimp only [Pt.U, Pt.locs, Pt.cells, Pt.slots] at X101 l101 y101 z101 st101 hQ101
  subst l101 y101 z101
  obtain ⟨rfl, N101q, e101⟩ := hQ101
  have N101 := Fr.app N0 N101q
  obtain ⟨T102, h102, X102, e102, W102, st102⟩ := putFN X101 hx hZ hown (hw _ (List.mem_of_getElem? (i := 14) rfl)) Via.refl e101 F_0 E_o (Or.inl (hw _ (List.mem_of_getElem? (i := 15) rfl))) (hw _ (List.mem_of_getElem? (i := 1) rfl)) (ty := .short) (v' := (.int (nar .short p2))) (by decide) rfl (fits_nar_short _) (g := (mkF m 6 #[.val (.ref a1), .val (.int p2), .val (.int p3), .val (.int p4)] [(.int p2), (.ref a1)])) rfl rfl (hb hby d1_6)
  have F1_103 := F_1.other W102 (Or.inr (slot_ne (Or.inl (hw _ (List.mem_of_getElem? (i := 17) rfl))) (Or.inl (hw _ (List.mem_of_getElem? (i := 15) rfl))) (by decide) (t := .short) (t' := .short) (by decide) (by decide)))
  have F2_104 := F_2.other W102 (Or.inr (slot_ne (Or.inl (hw _ (List.mem_of_getElem? (i := 19) rfl))) (Or.inl (hw _ (List.mem_of_getElem? (i := 15) rfl))) (by decide) (t := .short) (t' := .short) (by decide) (by decide)))
  have E_105 := E_o.wr W102
  have K_106 := (Keep.refl h0 [a1]).wr W102 (Or.inl (List.mem_of_getElem? (i := 0) rfl))
  have F0_107 := F_0.same W102
  have N102 := Fr.snoc X102 N101 g_a1
  have Z108 : n0 ≤ h102.size := Nat.le_trans Z0 ((Keep.of_wr W102).1)
  obtain ⟨T109, h109, X109, e109, W109, st109⟩ := putFN X102 hx hZ hown (hw _ (List.mem_of_getElem? (i := 16) rfl)) Via.refl e102 F1_103 E_105 (Or.inl (hw _ (List.mem_of_getElem? (i := 17) rfl))) (hw _ (List.mem_of_getElem? (i := 1) rfl)) (ty := .short) (v' := (.int (nar .short p3))) (by decide) rfl (fits_nar_short _) (g := (mkF m 11 #[.val (.ref a1), .val (.int p2), .val (.int p3), .val (.int p4)] [(.int p3), (.ref a1)])) rfl rfl (hb hby d1_11)
  have F0_110 := F0_107.other W109 (Or.inr (slot_ne (Or.inl (hw _ (List.mem_of_getElem? (i := 15) rfl))) (Or.inl (hw _ (List.mem_of_getElem? (i := 17) rfl))) (by decide) (t := .short) (t' := .short) (by decide) (by decide)))
  have F2_111 := F2_104.other W109 (Or.inr (slot_ne (Or.inl (hw _ (List.mem_of_getElem? (i := 19) rfl))) (Or.inl (hw _ (List.mem_of_getElem? (i := 17) rfl))) (by decide) (t := .short) (t' := .short) (by decide) (by decide)))
  have E_112 := E_105.wr W109
  have K_113 := K_106.wr W109 (Or.inl (List.mem_of_getElem? (i := 0) rfl))
  have F1_114 := F1_103.same W109
  have N109 := Fr.snoc X109 N102 g_a1
  have Z115 : n0 ≤ h109.size := Nat.le_trans Z108 ((Keep.of_wr W109).1)
  obtain ⟨T116, h116, X116, e116, W116, st116⟩ := putFN X109 hx hZ hown (hw _ (List.mem_of_getElem? (i := 18) rfl)) Via.refl e109 F2_111 E_112 (Or.inl (hw _ (List.mem_of_getElem? (i := 19) rfl))) (hw _ (List.mem_of_getElem? (i := 1) rfl)) (ty := .short) (v' := (.int (nar .short p4))) (by decide) rfl (fits_nar_short _) (g := (mkF m 16 #[.val (.ref a1), .val (.int p2), .val (.int p3), .val (.int p4)] [(.int p4), (.ref a1)])) rfl rfl (hb hby d1_16)
  have F0_117 := F0_110.other W116 (Or.inr (slot_ne (Or.inl (hw _ (List.mem_of_getElem? (i := 15) rfl))) (Or.inl (hw _ (List.mem_of_getElem? (i := 19) rfl))) (by decide) (t := .short) (t' := .short) (by decide) (by decide)))
  have F1_118 := F1_114.other W116 (Or.inr (slot_ne (Or.inl (hw _ (List.mem_of_getElem? (i := 17) rfl))) (Or.inl (hw _ (List.mem_of_getElem? (i := 19) rfl))) (by decide) (t := .short) (t' := .short) (by decide) (by decide)))
  have E_119 := E_112.wr W116
  have K_120 := K_113.wr W116 (Or.inl (List.mem_of_getElem? (i := 0) rfl))
  have F2_121 := F2_111.same W116
  have N116 := Fr.snoc X116 N109 g_a1
  have Z122 : n0 ≤ h116.size := Nat.le_trans Z115 ((Keep.of_wr W116).1)
  have pre123 : ∀ t_, Steps p.tables e below (T116.setTop (mkF m 19 #[.val (.ref a1), .val (.int p2), .val (.int p3), .val (.int p4)] [])) t_ → Steps p.tables e below (s₁.setTop (entryFrame m #[(.ref a1), (.int p2), (.int p3), (.int p4)] 4)) t_ := fun t_ k_ => pre0 _ (by
    show Steps p.tables e below (s₁.setTop (mkF m 0 #[.val (.ref a1), .val (.int p2), .val (.int p3), .val (.int p4)] [])) _
    refine XS.aloadN X0.here hx rfl (hb hby d1_0) rfl rfl ?_
    show Steps p.tables e below (s₁.setTop (mkF m 1 #[.val (.ref a1), .val (.int p2), .val (.int p3), .val (.int p4)] [(.ref a1)])) _
    refine st101.trans ?_
    show Steps p.tables e below (T101.setTop (mkF m 4 #[.val (.ref a1), .val (.int p2), .val (.int p3), .val (.int p4)] [])) _
    refine XS.aloadN X101.here hx rfl (hb hby d1_4) rfl rfl ?_
    show Steps p.tables e below (T101.setTop (mkF m 5 #[.val (.ref a1), .val (.int p2), .val (.int p3), .val (.int p4)] [(.ref a1)])) _
    refine XS.iloadN X101.here hx rfl (hb hby d1_5) rfl ?_
    show Steps p.tables e below (T101.setTop (mkF m 6 #[.val (.ref a1), .val (.int p2), .val (.int p3), .val (.int p4)] [(.int p2), (.ref a1)])) _
    refine st102 _ ?_
    show Steps p.tables e below (T102.setTop (mkF m 9 #[.val (.ref a1), .val (.int p2), .val (.int p3), .val (.int p4)] [])) _
    refine XS.aloadN X102.here hx rfl (hb hby d1_9) rfl rfl ?_
    show Steps p.tables e below (T102.setTop (mkF m 10 #[.val (.ref a1), .val (.int p2), .val (.int p3), .val (.int p4)] [(.ref a1)])) _
    refine XS.iloadN X102.here hx rfl (hb hby d1_10) rfl ?_
    show Steps p.tables e below (T102.setTop (mkF m 11 #[.val (.ref a1), .val (.int p2), .val (.int p3), .val (.int p4)] [(.int p3), (.ref a1)])) _
    refine st109 _ ?_
    show Steps p.tables e below (T109.setTop (mkF m 14 #[.val (.ref a1), .val (.int p2), .val (.int p3), .val (.int p4)] [])) _
    refine XS.aloadN X109.here hx rfl (hb hby d1_14) rfl rfl ?_
    show Steps p.tables e below (T109.setTop (mkF m 15 #[.val (.ref a1), .val (.int p2), .val (.int p3), .val (.int p4)] [(.ref a1)])) _
    refine XS.iloadN X109.here hx rfl (hb hby d1_15) rfl ?_
    show Steps p.tables e below (T109.setTop (mkF m 16 #[.val (.ref a1), .val (.int p2), .val (.int p3), .val (.int p4)] [(.int p4), (.ref a1)])) _
    refine st116 _ ?_
    exact k_)
  obtain ⟨fs, hr, hrun, hended, hW, hsame⟩ := X116.leave (v := none) (fun _ => rfl)
  refine ⟨_, _, pre123 _ ?_, hrun, hended, _, _, rfl, ?_, ⟨_, rfl⟩, hW, hsame.mono (by decide) (by decide)⟩
  · show Steps p.tables e below (T116.setTop (mkF m 19 #[.val (.ref a1), .val (.int p2), .val (.int p3), .val (.int p4)] [])) _
    exact X116.returnOut hx Bd.returns (hb hby d1_19) hr
  · show QrmC Z a1 p2 p3 p4 h0 n0 _ T116.heap _
    rw [e116]
    exact ⟨rfl, N116, K_120, E_119, F0_117, F1_118, F2_121⟩
theorem d4_0 : decode prog_83_method_7_code 0 = .ok (.aload_n 1, 1) := by decide +kernel
theorem d4_1 : decode prog_83_method_7_code 1 = .ok (.instanceof 8, 3) := by decide +kernel
theorem d4_4 : decode prog_83_method_7_code 4 = .ok (.ifCond .eq 45, 3) := by decide +kernel
theorem d4_49 : decode prog_83_method_7_code 49 = .ok (.iconst 0, 1) := by decide +kernel
theorem d4_50 : decode prog_83_method_7_code 50 = .ok (.ireturn, 1) := by decide +kernel
theorem ef_rmE0 (m : MethodId) (x0 : Addr) : entryFrame m #[(.ref x0), .null] 3 = mkF m 0 #[.val (.ref x0), .val .null, .unset] [] := by first | (simp [entryFrame, mkF, argsToLocals, Value.category]; done) | rfl
def QrmE0 (Z : State) (a1 : Addr) (h0 : Heap) (n0 : Nat) (v : Option Value) (h : Heap) (L : List Loc) : Prop := v = some (.int 0) ∧ Fr n0 L ∧ h = h0
set_option maxRecDepth 65536 in
set_option maxHeartbeats 40000000 in
theorem rmE0 (l : Launch) (Z : State) (a0 : Array Value) (hw : ∀ d ∈ tables_1, d.before a0 Z = true) (ws : List Jvm.Cond) (a1 : Addr) (h0 : Heap) (n0 : Nat) (Z0 : n0 ≤ h0.size) :
    MetFree l (⟨"com/example/termite/termite/protocol/ApiVersionsResponse$VersionRange", "equals", "(Ljava/lang/Object;)Z"⟩ : MethodName) (head1 (Jvm.Cond.code (⟨"com/example/termite/termite/protocol/ApiVersionsResponse$VersionRange", "equals", "(Ljava/lang/Object;)Z"⟩ : MethodName) prog_83_method_7_code 3 (some .boolean) :: ws) ({ frames := 0, cells := 0, slots := 0, locals := 0 } : Room)) (fun a U => a = #[(.ref a1), .null] ∧ Z.Warmed39 U.vm ∧ U.heap = h0) (fun _ _ _ _ _ => True) (fun _ U o U' => ∃ v L, o = .returned v ∧ QrmE0 Z a1 h0 n0 v U'.heap L ∧ FrameEnd U o U' L ({ frames := 0, cells := 0, slots := 0, locals := 0 } : Room).cells ({ frames := 0, cells := 0, slots := 0, locals := 0 } : Room).slots) := by
  refine MetFree.of_bodySF (plainFor_of_name pn_3) hisR ?_
  intro p e s m args below meth c s₁ Bd hml0 hP hK
  obtain ⟨rfl, hZ, hh⟩ := hP
  have hx := Bd.exec
  have hby := Bd.bytes
  have hml : c.maxLocals = 3 := hml0
  have hown : s.vm.findClass "com/example/termite/termite/protocol/ApiVersionsResponse$VersionRange" = some m.cls := findClass_of_methodNamed Bd.named
  have hnm := (name_of_methodNamed Bd.named Bd.method).1
  have X0 : Stand p l e ({ frames := 0, cells := 0, slots := 0, locals := 0 } : Room) s m #[(.ref a1), .null] below meth c s₁ [] 0 0 := Stand.of_body Bd
  have e0 : s₁.heap = h0 := by rw [← hh, Bd.state]; rfl
  have N0 := Fr.nil n0
  have pre0 : ∀ t_, Steps p.tables e below (s₁.setTop (mkF m 0 #[.val (.ref a1), .val .null, .unset] [])) t_ → Steps p.tables e below (s₁.setTop (entryFrame m #[(.ref a1), .null] 3)) t_ := fun t_ k_ => castTop (ef_rmE0 m a1) k_
  have pre101 : ∀ t_, Steps p.tables e below (s₁.setTop (mkF m 50 #[.val (.ref a1), .val .null, .unset] [(.int (0 : Int32))])) t_ → Steps p.tables e below (s₁.setTop (entryFrame m #[(.ref a1), .null] 3)) t_ := fun t_ k_ => pre0 _ (by
    show Steps p.tables e below (s₁.setTop (mkF m 0 #[.val (.ref a1), .val .null, .unset] [])) _
    refine XS.aloadN X0.here hx rfl (hb hby d4_0) rfl rfl ?_
    show Steps p.tables e below (s₁.setTop (mkF m 1 #[.val (.ref a1), .val .null, .unset] [.null])) _
    refine X0.instanceofNull hx (g := (mkF m 1 #[.val (.ref a1), .val .null, .unset] [.null])) rfl rfl (hb hby d4_1) _ ?_
    show Steps p.tables e below (s₁.setTop (mkF m 4 #[.val (.ref a1), .val .null, .unset] [(.int (0 : Int32))])) _
    refine XS.ifYes X0.here hx rfl (pc0 := 4) (pc' := 49) rfl (hb hby d4_4) rfl ((if0 _ _).trans (teq (rfl : (0 : Int32) = 0)).1) (by decide) (by decide) ?_
    show Steps p.tables e below (s₁.setTop (mkF m 49 #[.val (.ref a1), .val .null, .unset] [])) _
    refine XS.iconst X0.here hx rfl (hb hby d4_49) ?_
    exact k_)
  obtain ⟨fs, hr, hrun, hended, hW, hsame⟩ := X0.leave (v := some (.int (0 : Int32))) (fun h => by rw [Bd.returns] at h; cases h)
  refine ⟨_, _, pre101 _ ?_, hrun, hended, _, _, rfl, ?_, ⟨_, rfl⟩, hW, hsame.mono (by decide) (by decide)⟩
  · show Steps p.tables e below (s₁.setTop (mkF m 50 #[.val (.ref a1), .val .null, .unset] [(.int (0 : Int32))])) _
    exact retN X0 hx (t := .boolean) Bd.returns (by simp) (hb hby d4_50) hr
  · show QrmE0 Z a1 h0 n0 _ s₁.heap _
    rw [e0]
    exact ⟨rfl, N0, rfl⟩
theorem ef_rmE1 (m : MethodId) (x0 : Addr) (x1 : Addr) : entryFrame m #[(.ref x0), (.ref x1)] 3 = mkF m 0 #[.val (.ref x0), .val (.ref x1), .unset] [] := by first | (simp [entryFrame, mkF, argsToLocals, Value.category]; done) | rfl
def QrmE1 (Z : State) (a1 : Addr) (a2 : Addr) (h0 : Heap) (n0 : Nat) (v : Option Value) (h : Heap) (L : List Loc) : Prop := v = some (.int 0) ∧ Fr n0 L ∧ h = h0
set_option maxRecDepth 65536 in
set_option maxHeartbeats 40000000 in
theorem rmE1 (l : Launch) (Z : State) (a0 : Array Value) (hw : ∀ d ∈ tables_1, d.before a0 Z = true) (ws : List Jvm.Cond) (a1 : Addr) (a2 : Addr) (h0 : Heap) (n0 : Nat) (Z0 : n0 ≤ h0.size) (E_i : Exa Z h0 a2 "java/lang/Integer") :
    MetFree l (⟨"com/example/termite/termite/protocol/ApiVersionsResponse$VersionRange", "equals", "(Ljava/lang/Object;)Z"⟩ : MethodName) (head1 (Jvm.Cond.code (⟨"com/example/termite/termite/protocol/ApiVersionsResponse$VersionRange", "equals", "(Ljava/lang/Object;)Z"⟩ : MethodName) prog_83_method_7_code 3 (some .boolean) :: ws) ({ frames := 0, cells := 0, slots := 0, locals := 0 } : Room)) (fun a U => a = #[(.ref a1), (.ref a2)] ∧ Z.Warmed39 U.vm ∧ U.heap = h0) (fun _ _ _ _ _ => True) (fun _ U o U' => ∃ v L, o = .returned v ∧ QrmE1 Z a1 a2 h0 n0 v U'.heap L ∧ FrameEnd U o U' L ({ frames := 0, cells := 0, slots := 0, locals := 0 } : Room).cells ({ frames := 0, cells := 0, slots := 0, locals := 0 } : Room).slots) := by
  refine MetFree.of_bodySF (plainFor_of_name pn_3) hisR ?_
  intro p e s m args below meth c s₁ Bd hml0 hP hK
  obtain ⟨rfl, hZ, hh⟩ := hP
  have hx := Bd.exec
  have hby := Bd.bytes
  have hml : c.maxLocals = 3 := hml0
  have hown : s.vm.findClass "com/example/termite/termite/protocol/ApiVersionsResponse$VersionRange" = some m.cls := findClass_of_methodNamed Bd.named
  have hnm := (name_of_methodNamed Bd.named Bd.method).1
  have X0 : Stand p l e ({ frames := 0, cells := 0, slots := 0, locals := 0 } : Room) s m #[(.ref a1), (.ref a2)] below meth c s₁ [] 0 0 := Stand.of_body Bd
  have e0 : s₁.heap = h0 := by rw [← hh, Bd.state]; rfl
  have N0 := Fr.nil n0
  have pre0 : ∀ t_, Steps p.tables e below (s₁.setTop (mkF m 0 #[.val (.ref a1), .val (.ref a2), .unset] [])) t_ → Steps p.tables e below (s₁.setTop (entryFrame m #[(.ref a1), (.ref a2)] 3)) t_ := fun t_ k_ => castTop (ef_rmE1 m a1 a2) k_
  obtain ⟨T101, X101, e101, st101⟩ := instNo X0 hx hZ hown (hw _ (List.mem_of_getElem? (i := 25) rfl)) e0 E_i (own_nsK (hw _ (List.mem_of_getElem? (i := 46) rfl)) (hw _ (List.mem_of_getElem? (i := 47) rfl)) (hw _ (List.mem_of_getElem? (i := 48) rfl)) (hw _ (List.mem_of_getElem? (i := 1) rfl)) (by decide) (by decide) (by decide)) (g := (mkF m 1 #[.val (.ref a1), .val (.ref a2), .unset] [(.ref a2)])) rfl rfl (hb hby d4_1)
  have pre102 : ∀ t_, Steps p.tables e below (T101.setTop (mkF m 50 #[.val (.ref a1), .val (.ref a2), .unset] [(.int (0 : Int32))])) t_ → Steps p.tables e below (s₁.setTop (entryFrame m #[(.ref a1), (.ref a2)] 3)) t_ := fun t_ k_ => pre0 _ (by
    show Steps p.tables e below (s₁.setTop (mkF m 0 #[.val (.ref a1), .val (.ref a2), .unset] [])) _
    refine XS.aloadN X0.here hx rfl (hb hby d4_0) rfl rfl ?_
    show Steps p.tables e below (s₁.setTop (mkF m 1 #[.val (.ref a1), .val (.ref a2), .unset] [(.ref a2)])) _
    refine st101 _ ?_
    show Steps p.tables e below (T101.setTop (mkF m 4 #[.val (.ref a1), .val (.ref a2), .unset] [(.int (0 : Int32))])) _
    refine XS.ifYes X101.here hx rfl (pc0 := 4) (pc' := 49) rfl (hb hby d4_4) rfl ((if0 _ _).trans (teq (rfl : (0 : Int32) = 0)).1) (by decide) (by decide) ?_
    show Steps p.tables e below (T101.setTop (mkF m 49 #[.val (.ref a1), .val (.ref a2), .unset] [])) _
    refine XS.iconst X101.here hx rfl (hb hby d4_49) ?_
    exact k_)
  obtain ⟨fs, hr, hrun, hended, hW, hsame⟩ := X101.leave (v := some (.int (0 : Int32))) (fun h => by rw [Bd.returns] at h; cases h)
  refine ⟨_, _, pre102 _ ?_, hrun, hended, _, _, rfl, ?_, ⟨_, rfl⟩, hW, hsame.mono (by decide) (by decide)⟩
  · show Steps p.tables e below (T101.setTop (mkF m 50 #[.val (.ref a1), .val (.ref a2), .unset] [(.int (0 : Int32))])) _
    exact retN X101 hx (t := .boolean) Bd.returns (by simp) (hb hby d4_50) hr
  · show QrmE1 Z a1 a2 h0 n0 _ T101.heap _
    rw [e101]
    exact ⟨rfl, N0, rfl⟩
theorem d4_7 : decode prog_83_method_7_code 7 = .ok (.aload_n 1, 1) := by decide +kernel
theorem d4_8 : decode prog_83_method_7_code 8 = .ok (.checkcast 8, 3) := by decide +kernel
theorem d4_11 : decode prog_83_method_7_code 11 = .ok (.astore_n 2, 1) := by decide +kernel
theorem d4_12 : decode prog_83_method_7_code 12 = .ok (.aload_n 0, 1) := by decide +kernel
theorem d4_13 : decode prog_83_method_7_code 13 = .ok (.getfield 7, 3) := by decide +kernel
theorem d4_16 : decode prog_83_method_7_code 16 = .ok (.aload_n 2, 1) := by decide +kernel
theorem d4_17 : decode prog_83_method_7_code 17 = .ok (.getfield 7, 3) := by decide +kernel
theorem d4_20 : decode prog_83_method_7_code 20 = .ok (.if_icmp .ne 29, 3) := by decide +kernel
theorem d4_23 : decode prog_83_method_7_code 23 = .ok (.aload_n 0, 1) := by decide +kernel
theorem d4_24 : decode prog_83_method_7_code 24 = .ok (.getfield 13, 3) := by decide +kernel
theorem d4_27 : decode prog_83_method_7_code 27 = .ok (.aload_n 2, 1) := by decide +kernel
theorem d4_28 : decode prog_83_method_7_code 28 = .ok (.getfield 13, 3) := by decide +kernel
theorem d4_31 : decode prog_83_method_7_code 31 = .ok (.if_icmp .ne 18, 3) := by decide +kernel
theorem d4_34 : decode prog_83_method_7_code 34 = .ok (.aload_n 0, 1) := by decide +kernel
theorem d4_35 : decode prog_83_method_7_code 35 = .ok (.getfield 16, 3) := by decide +kernel
theorem d4_38 : decode prog_83_method_7_code 38 = .ok (.aload_n 2, 1) := by decide +kernel
theorem d4_39 : decode prog_83_method_7_code 39 = .ok (.getfield 16, 3) := by decide +kernel
theorem d4_42 : decode prog_83_method_7_code 42 = .ok (.if_icmp .ne 7, 3) := by decide +kernel
theorem d4_45 : decode prog_83_method_7_code 45 = .ok (.iconst 1, 1) := by decide +kernel
theorem d4_46 : decode prog_83_method_7_code 46 = .ok (.goto 4, 3) := by decide +kernel
theorem ef_rmE2 (m : MethodId) (x0 : Addr) (x1 : Addr) : entryFrame m #[(.ref x0), (.ref x1)] 3 = mkF m 0 #[.val (.ref x0), .val (.ref x1), .unset] [] := by first | (simp [entryFrame, mkF, argsToLocals, Value.category]; done) | rfl
def QrmE2 (Z : State) (a1 : Addr) (a2 : Addr) (u1 : Int32) (u2 : Int32) (u3 : Int32) (w1 : Int32) (w2 : Int32) (w3 : Int32) (h0 : Heap) (n0 : Nat) (v : Option Value) (h : Heap) (L : List Loc) : Prop := v = some (.int (own_eq3 u1 u2 u3 w1 w2 w3)) ∧ Fr n0 L ∧ h = h0
set_option maxRecDepth 65536 in
set_option maxHeartbeats 40000000 in
theorem rmE2 (l : Launch) (Z : State) (a0 : Array Value) (hw : ∀ d ∈ tables_1, d.before a0 Z = true) (ws : List Jvm.Cond) (a1 : Addr) (a2 : Addr) (u1 : Int32) (u2 : Int32) (u3 : Int32) (w1 : Int32) (w2 : Int32) (w3 : Int32) (h0 : Heap) (n0 : Nat) (Z0 : n0 ≤ h0.size) (E_i : Exa Z h0 a2 "com/example/termite/termite/protocol/ApiVersionsResponse$VersionRange") (F0 : Fld Z h0 a1 "com/example/termite/termite/protocol/ApiVersionsResponse$VersionRange" "apiKey" "S" (.int u1)) (F1 : Fld Z h0 a1 "com/example/termite/termite/protocol/ApiVersionsResponse$VersionRange" "minVersion" "S" (.int u2)) (F2 : Fld Z h0 a1 "com/example/termite/termite/protocol/ApiVersionsResponse$VersionRange" "maxVersion" "S" (.int u3)) (G0 : Fld Z h0 a2 "com/example/termite/termite/protocol/ApiVersionsResponse$VersionRange" "apiKey" "S" (.int w1)) (G1 : Fld Z h0 a2 "com/example/termite/termite/protocol/ApiVersionsResponse$VersionRange" "minVersion" "S" (.int w2)) (G2 : Fld Z h0 a2 "com/example/termite/termite/protocol/ApiVersionsResponse$VersionRange" "maxVersion" "S" (.int w3)) :
    MetFree l (⟨"com/example/termite/termite/protocol/ApiVersionsResponse$VersionRange", "equals", "(Ljava/lang/Object;)Z"⟩ : MethodName) (head1 (Jvm.Cond.code (⟨"com/example/termite/termite/protocol/ApiVersionsResponse$VersionRange", "equals", "(Ljava/lang/Object;)Z"⟩ : MethodName) prog_83_method_7_code 3 (some .boolean) :: ws) ({ frames := 0, cells := 0, slots := 0, locals := 0 } : Room)) (fun a U => a = #[(.ref a1), (.ref a2)] ∧ Z.Warmed39 U.vm ∧ U.heap = h0) (fun _ _ _ _ _ => True) (fun _ U o U' => ∃ v L, o = .returned v ∧ QrmE2 Z a1 a2 u1 u2 u3 w1 w2 w3 h0 n0 v U'.heap L ∧ FrameEnd U o U' L ({ frames := 0, cells := 0, slots := 0, locals := 0 } : Room).cells ({ frames := 0, cells := 0, slots := 0, locals := 0 } : Room).slots) := by
  refine MetFree.of_bodySF (plainFor_of_name pn_3) hisR ?_
  intro p e s m args below meth c s₁ Bd hml0 hP hK
  obtain ⟨rfl, hZ, hh⟩ := hP
  have hx := Bd.exec
  have hby := Bd.bytes
  have hml : c.maxLocals = 3 := hml0
  have hown : s.vm.findClass "com/example/termite/termite/protocol/ApiVersionsResponse$VersionRange" = some m.cls := findClass_of_methodNamed Bd.named
  have hnm := (name_of_methodNamed Bd.named Bd.method).1
  have X0 : Stand p l e ({ frames := 0, cells := 0, slots := 0, locals := 0 } : Room) s m #[(.ref a1), (.ref a2)] below meth c s₁ [] 0 0 := Stand.of_body Bd
  have e0 : s₁.heap = h0 := by rw [← hh, Bd.state]; rfl
  have N0 := Fr.nil n0
  have pre0 : ∀ t_, Steps p.tables e below (s₁.setTop (mkF m 0 #[.val (.ref a1), .val (.ref a2), .unset] [])) t_ → Steps p.tables e below (s₁.setTop (entryFrame m #[(.ref a1), (.ref a2)] 3)) t_ := fun t_ k_ => castTop (ef_rmE2 m a1 a2) k_
  obtain ⟨T101, X101, e101, st101⟩ := instY X0 hx hZ hown (hw _ (List.mem_of_getElem? (i := 25) rfl)) e0 (Ins.self E_i) (g := (mkF m 1 #[.val (.ref a1), .val (.ref a2), .unset] [(.ref a2)])) rfl rfl (hb hby d4_1)
  obtain ⟨T102, X102, e102, st102⟩ := castY X101 hx hZ hown (hw _ (List.mem_of_getElem? (i := 25) rfl)) e101 (Ins.self E_i) (g := (mkF m 8 #[.val (.ref a1), .val (.ref a2), .unset] [(.ref a2)])) rfl rfl (hb hby d4_8)
  obtain ⟨T103, X103, e103, st103⟩ := getF X102 hx hZ hown (host := "") (Or.inl (hw _ (List.mem_of_getElem? (i := 14) rfl))) Via.refl e102 F0 (g := (mkF m 13 #[.val (.ref a1), .val (.ref a2), .val (.ref a2)] [(.ref a1)])) rfl rfl (hb hby d4_13)
  obtain ⟨T104, X104, e104, st104⟩ := getF X103 hx hZ hown (host := "") (Or.inl (hw _ (List.mem_of_getElem? (i := 14) rfl))) Via.refl e103 G0 (g := (mkF m 17 #[.val (.ref a1), .val (.ref a2), .val (.ref a2)] [(.ref a2), (.int u1)])) rfl rfl (hb hby d4_17)
  have pre105 : ∀ t_, Steps p.tables e below (T104.setTop (mkF m 20 #[.val (.ref a1), .val (.ref a2), .val (.ref a2)] [(.int w1), (.int u1)])) t_ → Steps p.tables e below (s₁.setTop (entryFrame m #[(.ref a1), (.ref a2)] 3)) t_ := fun t_ k_ => pre0 _ (by
    show Steps p.tables e below (s₁.setTop (mkF m 0 #[.val (.ref a1), .val (.ref a2), .unset] [])) _
    refine XS.aloadN X0.here hx rfl (hb hby d4_0) rfl rfl ?_
    show Steps p.tables e below (s₁.setTop (mkF m 1 #[.val (.ref a1), .val (.ref a2), .unset] [(.ref a2)])) _
    refine st101 _ ?_
    show Steps p.tables e below (T101.setTop (mkF m 4 #[.val (.ref a1), .val (.ref a2), .unset] [(.int (1 : Int32))])) _
    refine XS.ifNo X101.here hx rfl (hb hby d4_4) rfl ((if0 _ _).trans (feq (by decide : ¬ (1 : Int32) = 0)).1) ?_
    show Steps p.tables e below (T101.setTop (mkF m 7 #[.val (.ref a1), .val (.ref a2), .unset] [])) _
    refine XS.aloadN X101.here hx rfl (hb hby d4_7) rfl rfl ?_
    show Steps p.tables e below (T101.setTop (mkF m 8 #[.val (.ref a1), .val (.ref a2), .unset] [(.ref a2)])) _
    refine st102 _ ?_
    show Steps p.tables e below (T102.setTop (mkF m 11 #[.val (.ref a1), .val (.ref a2), .unset] [(.ref a2)])) _
    refine XS.astoreN X102.here hx rfl (hb hby d4_11) rfl rfl (l' := #[.val (.ref a1), .val (.ref a2), .val (.ref a2)]) rfl ?_
    show Steps p.tables e below (T102.setTop (mkF m 12 #[.val (.ref a1), .val (.ref a2), .val (.ref a2)] [])) _
    refine XS.aloadN X102.here hx rfl (hb hby d4_12) rfl rfl ?_
    show Steps p.tables e below (T102.setTop (mkF m 13 #[.val (.ref a1), .val (.ref a2), .val (.ref a2)] [(.ref a1)])) _
    refine st103 _ ?_
    show Steps p.tables e below (T103.setTop (mkF m 16 #[.val (.ref a1), .val (.ref a2), .val (.ref a2)] [(.int u1)])) _
    refine XS.aloadN X103.here hx rfl (hb hby d4_16) rfl rfl ?_
    show Steps p.tables e below (T103.setTop (mkF m 17 #[.val (.ref a1), .val (.ref a2), .val (.ref a2)] [(.ref a2), (.int u1)])) _
    refine st104 _ ?_
    exact k_)
  by_cases hc0 : u1 = w1
  · skip
    obtain ⟨T106, X106, e106, st106⟩ := getF X104 hx hZ hown (host := "") (Or.inl (hw _ (List.mem_of_getElem? (i := 16) rfl))) Via.refl e104 F1 (g := (mkF m 24 #[.val (.ref a1), .val (.ref a2), .val (.ref a2)] [(.ref a1)])) rfl rfl (hb hby d4_24)
    obtain ⟨T107, X107, e107, st107⟩ := getF X106 hx hZ hown (host := "") (Or.inl (hw _ (List.mem_of_getElem? (i := 16) rfl))) Via.refl e106 G1 (g := (mkF m 28 #[.val (.ref a1), .val (.ref a2), .val (.ref a2)] [(.ref a2), (.int u2)])) rfl rfl (hb hby d4_28)
    have pre108 : ∀ t_, Steps p.tables e below (T107.setTop (mkF m 31 #[.val (.ref a1), .val (.ref a2), .val (.ref a2)] [(.int w2), (.int u2)])) t_ → Steps p.tables e below (s₁.setTop (entryFrame m #[(.ref a1), (.ref a2)] 3)) t_ := fun t_ k_ => pre105 _ (by
      show Steps p.tables e below (T104.setTop (mkF m 20 #[.val (.ref a1), .val (.ref a2), .val (.ref a2)] [(.int w1), (.int u1)])) _
      refine XS.icmpNo X104.here hx rfl (hb hby d4_20) rfl (teq hc0).2 ?_
      show Steps p.tables e below (T104.setTop (mkF m 23 #[.val (.ref a1), .val (.ref a2), .val (.ref a2)] [])) _
      refine XS.aloadN X104.here hx rfl (hb hby d4_23) rfl rfl ?_
      show Steps p.tables e below (T104.setTop (mkF m 24 #[.val (.ref a1), .val (.ref a2), .val (.ref a2)] [(.ref a1)])) _
      refine st106 _ ?_
      show Steps p.tables e below (T106.setTop (mkF m 27 #[.val (.ref a1), .val (.ref a2), .val (.ref a2)] [(.int u2)])) _
      refine XS.aloadN X106.here hx rfl (hb hby d4_27) rfl rfl ?_
      show Steps p.tables e below (T106.setTop (mkF m 28 #[.val (.ref a1), .val (.ref a2), .val (.ref a2)] [(.ref a2), (.int u2)])) _
      refine st107 _ ?_
      exact k_)
    by_cases hc1 : u2 = w2
    · skip
      obtain ⟨T109, X109, e109, st109⟩ := getF X107 hx hZ hown (host := "") (Or.inl (hw _ (List.mem_of_getElem? (i := 18) rfl))) Via.refl e107 F2 (g := (mkF m 35 #[.val (.ref a1), .val (.ref a2), .val (.ref a2)] [(.ref a1)])) rfl rfl (hb hby d4_35)
      obtain ⟨T110, X110, e110, st110⟩ := getF X109 hx hZ hown (host := "") (Or.inl (hw _ (List.mem_of_getElem? (i := 18) rfl))) Via.refl e109 G2 (g := (mkF m 39 #[.val (.ref a1), .val (.ref a2), .val (.ref a2)] [(.ref a2), (.int u3)])) rfl rfl (hb hby d4_39)
      have pre111 : ∀ t_, Steps p.tables e below (T110.setTop (mkF m 42 #[.val (.ref a1), .val (.ref a2), .val (.ref a2)] [(.int w3), (.int u3)])) t_ → Steps p.tables e below (s₁.setTop (entryFrame m #[(.ref a1), (.ref a2)] 3)) t_ := fun t_ k_ => pre108 _ (by
        show Steps p.tables e below (T107.setTop (mkF m 31 #[.val (.ref a1), .val (.ref a2), .val (.ref a2)] [(.int w2), (.int u2)])) _
        refine XS.icmpNo X107.here hx rfl (hb hby d4_31) rfl (teq hc1).2 ?_
        show Steps p.tables e below (T107.setTop (mkF m 34 #[.val (.ref a1), .val (.ref a2), .val (.ref a2)] [])) _
        refine XS.aloadN X107.here hx rfl (hb hby d4_34) rfl rfl ?_
        show Steps p.tables e below (T107.setTop (mkF m 35 #[.val (.ref a1), .val (.ref a2), .val (.ref a2)] [(.ref a1)])) _
        refine st109 _ ?_
        show Steps p.tables e below (T109.setTop (mkF m 38 #[.val (.ref a1), .val (.ref a2), .val (.ref a2)] [(.int u3)])) _
        refine XS.aloadN X109.here hx rfl (hb hby d4_38) rfl rfl ?_
        show Steps p.tables e below (T109.setTop (mkF m 39 #[.val (.ref a1), .val (.ref a2), .val (.ref a2)] [(.ref a2), (.int u3)])) _
        refine st110 _ ?_
        exact k_)
      by_cases hc2 : u3 = w3
      · skip
        have pre112 : ∀ t_, Steps p.tables e below (T110.setTop (mkF m 50 #[.val (.ref a1), .val (.ref a2), .val (.ref a2)] [(.int (1 : Int32))])) t_ → Steps p.tables e below (s₁.setTop (entryFrame m #[(.ref a1), (.ref a2)] 3)) t_ := fun t_ k_ => pre111 _ (by
          show Steps p.tables e below (T110.setTop (mkF m 42 #[.val (.ref a1), .val (.ref a2), .val (.ref a2)] [(.int w3), (.int u3)])) _
          refine XS.icmpNo X110.here hx rfl (hb hby d4_42) rfl (teq hc2).2 ?_
          show Steps p.tables e below (T110.setTop (mkF m 45 #[.val (.ref a1), .val (.ref a2), .val (.ref a2)] [])) _
          refine XS.iconst X110.here hx rfl (hb hby d4_45) ?_
          show Steps p.tables e below (T110.setTop (mkF m 46 #[.val (.ref a1), .val (.ref a2), .val (.ref a2)] [(.int (1 : Int32))])) _
          refine XS.goto X110.here hx rfl (pc0 := 46) (pc' := 50) rfl (hb hby d4_46) (by decide) (by decide) ?_
          exact k_)
        obtain ⟨fs, hr, hrun, hended, hW, hsame⟩ := X110.leave (v := some (.int (1 : Int32))) (fun h => by rw [Bd.returns] at h; cases h)
        refine ⟨_, _, pre112 _ ?_, hrun, hended, _, _, rfl, ?_, ⟨_, rfl⟩, hW, hsame.mono (by decide) (by decide)⟩
        · show Steps p.tables e below (T110.setTop (mkF m 50 #[.val (.ref a1), .val (.ref a2), .val (.ref a2)] [(.int (1 : Int32))])) _
          exact retN X110 hx (t := .boolean) Bd.returns (by simp) (hb hby d4_50) hr
        · show QrmE2 Z a1 a2 u1 u2 u3 w1 w2 w3 h0 n0 _ T110.heap _
          rw [e110]
          exact ⟨by rw [own_eq3, if_pos hc0, if_pos hc1, if_pos hc2], N0, rfl⟩
      · skip
        have pre113 : ∀ t_, Steps p.tables e below (T110.setTop (mkF m 50 #[.val (.ref a1), .val (.ref a2), .val (.ref a2)] [(.int (0 : Int32))])) t_ → Steps p.tables e below (s₁.setTop (entryFrame m #[(.ref a1), (.ref a2)] 3)) t_ := fun t_ k_ => pre111 _ (by
          show Steps p.tables e below (T110.setTop (mkF m 42 #[.val (.ref a1), .val (.ref a2), .val (.ref a2)] [(.int w3), (.int u3)])) _
          refine XS.icmpYes X110.here hx rfl (pc0 := 42) (pc' := 49) rfl (hb hby d4_42) rfl (feq hc2).2 (by decide) (by decide) ?_
          show Steps p.tables e below (T110.setTop (mkF m 49 #[.val (.ref a1), .val (.ref a2), .val (.ref a2)] [])) _
          refine XS.iconst X110.here hx rfl (hb hby d4_49) ?_
          exact k_)
        obtain ⟨fs, hr, hrun, hended, hW, hsame⟩ := X110.leave (v := some (.int (0 : Int32))) (fun h => by rw [Bd.returns] at h; cases h)
        refine ⟨_, _, pre113 _ ?_, hrun, hended, _, _, rfl, ?_, ⟨_, rfl⟩, hW, hsame.mono (by decide) (by decide)⟩
        · show Steps p.tables e below (T110.setTop (mkF m 50 #[.val (.ref a1), .val (.ref a2), .val (.ref a2)] [(.int (0 : Int32))])) _
          exact retN X110 hx (t := .boolean) Bd.returns (by simp) (hb hby d4_50) hr
        · show QrmE2 Z a1 a2 u1 u2 u3 w1 w2 w3 h0 n0 _ T110.heap _
          rw [e110]
          exact ⟨by rw [own_eq3, if_pos hc0, if_pos hc1, if_neg hc2], N0, rfl⟩
    · skip
      have pre114 : ∀ t_, Steps p.tables e below (T107.setTop (mkF m 50 #[.val (.ref a1), .val (.ref a2), .val (.ref a2)] [(.int (0 : Int32))])) t_ → Steps p.tables e below (s₁.setTop (entryFrame m #[(.ref a1), (.ref a2)] 3)) t_ := fun t_ k_ => pre108 _ (by
        show Steps p.tables e below (T107.setTop (mkF m 31 #[.val (.ref a1), .val (.ref a2), .val (.ref a2)] [(.int w2), (.int u2)])) _
        refine XS.icmpYes X107.here hx rfl (pc0 := 31) (pc' := 49) rfl (hb hby d4_31) rfl (feq hc1).2 (by decide) (by decide) ?_
        show Steps p.tables e below (T107.setTop (mkF m 49 #[.val (.ref a1), .val (.ref a2), .val (.ref a2)] [])) _
        refine XS.iconst X107.here hx rfl (hb hby d4_49) ?_
        exact k_)
      obtain ⟨fs, hr, hrun, hended, hW, hsame⟩ := X107.leave (v := some (.int (0 : Int32))) (fun h => by rw [Bd.returns] at h; cases h)
      refine ⟨_, _, pre114 _ ?_, hrun, hended, _, _, rfl, ?_, ⟨_, rfl⟩, hW, hsame.mono (by decide) (by decide)⟩
      · show Steps p.tables e below (T107.setTop (mkF m 50 #[.val (.ref a1), .val (.ref a2), .val (.ref a2)] [(.int (0 : Int32))])) _
        exact retN X107 hx (t := .boolean) Bd.returns (by simp) (hb hby d4_50) hr
      · show QrmE2 Z a1 a2 u1 u2 u3 w1 w2 w3 h0 n0 _ T107.heap _
        rw [e107]
        exact ⟨by rw [own_eq3, if_pos hc0, if_neg hc1], N0, rfl⟩
  · skip
    have pre115 : ∀ t_, Steps p.tables e below (T104.setTop (mkF m 50 #[.val (.ref a1), .val (.ref a2), .val (.ref a2)] [(.int (0 : Int32))])) t_ → Steps p.tables e below (s₁.setTop (entryFrame m #[(.ref a1), (.ref a2)] 3)) t_ := fun t_ k_ => pre105 _ (by
      show Steps p.tables e below (T104.setTop (mkF m 20 #[.val (.ref a1), .val (.ref a2), .val (.ref a2)] [(.int w1), (.int u1)])) _
      refine XS.icmpYes X104.here hx rfl (pc0 := 20) (pc' := 49) rfl (hb hby d4_20) rfl (feq hc0).2 (by decide) (by decide) ?_
      show Steps p.tables e below (T104.setTop (mkF m 49 #[.val (.ref a1), .val (.ref a2), .val (.ref a2)] [])) _
      refine XS.iconst X104.here hx rfl (hb hby d4_49) ?_
      exact k_)
    obtain ⟨fs, hr, hrun, hended, hW, hsame⟩ := X104.leave (v := some (.int (0 : Int32))) (fun h => by rw [Bd.returns] at h; cases h)
    refine ⟨_, _, pre115 _ ?_, hrun, hended, _, _, rfl, ?_, ⟨_, rfl⟩, hW, hsame.mono (by decide) (by decide)⟩
    · show Steps p.tables e below (T104.setTop (mkF m 50 #[.val (.ref a1), .val (.ref a2), .val (.ref a2)] [(.int (0 : Int32))])) _
      exact retN X104 hx (t := .boolean) Bd.returns (by simp) (hb hby d4_50) hr
    · show QrmE2 Z a1 a2 u1 u2 u3 w1 w2 w3 h0 n0 _ T104.heap _
      rw [e104]
      exact ⟨by rw [own_eq3, if_neg hc0], N0, rfl⟩
theorem pd_2 : parseMethodDescriptor "(SSS)V" = some ⟨[.short, .short, .short], none⟩ := by decide +kernel
theorem pd_3 : parseMethodDescriptor "(Ljava/lang/Object;)Z" = some ⟨[(.object "java/lang/Object")], some .boolean⟩ := by decide +kernel
theorem pd_4 : parseMethodDescriptor "(I)Ljava/lang/Integer;" = some ⟨[.int], some (.object "java/lang/Integer")⟩ := by decide +kernel
theorem pn_4 : plainName "com/example/termite/termite/protocol/VersionRangeEqualsPinLaw" = true := by first | (simp [plainName, overriddenIn]; done) | decide +kernel
theorem ef_rm0 (m : MethodId) (x0 : Int32) (x1 : Int32) (x2 : Int32) (x3 : Int32) (x4 : Int32) (x5 : Int32) : entryFrame m #[(.int x0), (.int x1), (.int x2), (.int x3), (.int x4), (.int x5)] maxLocals = mkF m 0 #[.val (.int x0), .val (.int x1), .val (.int x2), .val (.int x3), .val (.int x4), .val (.int x5), .unset, .unset, .unset, .unset, .unset, .unset, .unset, .unset, .unset, .unset] [] := by first | (simp [entryFrame, mkF, argsToLocals, Value.category, maxLocals]; done) | rfl
def Qrm0 (Z : State) (p1 : Int32) (p2 : Int32) (p3 : Int32) (p4 : Int32) (p5 : Int32) (p6 : Int32) (ca : Addr) (cc : Cell) (h0 : Heap) (n0 : Nat) (v : Option Value) (h : Heap) (L : List Loc) : Prop := v = some (.int 1) ∧ Fr n0 L
set_option maxRecDepth 65536 in
set_option maxHeartbeats 40000000 in
theorem rm0 (l : Launch) (Z : State) (a0 : Array Value) (hw : ∀ d ∈ tables_1, d.before a0 Z = true) (ws : List Jvm.Cond) (p1 : Int32) (p2 : Int32) (p3 : Int32) (p4 : Int32) (p5 : Int32) (p6 : Int32) (ca : Addr) (cc : Cell) (h0 : Heap) (n0 : Nat) (Z0 : n0 ≤ h0.size) (O : Old Z n0 h0) (S_high : Sta Z Z.heap "java/lang/Integer$IntegerCache" "high" "I" (.int (127 : Int32))) (S_cache : Sta Z Z.heap "java/lang/Integer$IntegerCache" "cache" "[Ljava/lang/Integer;" (.ref ca)) (B_c : Bxs Z ca cc "java/lang/Integer" "I" 256 (fun j => .int (j - 128))) :
    MetFree l x (head1 (Jvm.Cond.code x code maxLocals ret :: ws) room_1) (fun a U => a = #[(.int p1), (.int p2), (.int p3), (.int p4), (.int p5), (.int p6)] ∧ Z.Warmed39 U.vm ∧ U.heap = h0) (fun _ _ _ _ _ => True) (fun _ U o U' => ∃ v L, o = .returned v ∧ Qrm0 Z p1 p2 p3 p4 p5 p6 ca cc h0 n0 v U'.heap L ∧ FrameEnd U o U' L room_1.cells room_1.slots) := by
  refine MetFree.of_bodySF (plainFor_of_name pn_4) hisR ?_
  intro p e s m args below meth c s₁ Bd hml0 hP hK
  obtain ⟨rfl, hZ, hh⟩ := hP
  have hx := Bd.exec
  have hby := Bd.bytes
  have hml : c.maxLocals = 16 := hml0
  have hown : s.vm.findClass "com/example/termite/termite/protocol/VersionRangeEqualsPinLaw" = some m.cls := findClass_of_methodNamed Bd.named
  have hnm := (name_of_methodNamed Bd.named Bd.method).1
  have X0 : Stand p l e room_1 s m #[(.int p1), (.int p2), (.int p3), (.int p4), (.int p5), (.int p6)] below meth c s₁ [] 0 0 := Stand.of_body Bd
  have e0 : s₁.heap = h0 := by rw [← hh, Bd.state]; rfl
  have N0 := Fr.nil n0
  have pre0 : ∀ t_, Steps p.tables e below (s₁.setTop (mkF m 0 #[.val (.int p1), .val (.int p2), .val (.int p3), .val (.int p4), .val (.int p5), .val (.int p6), .unset, .unset, .unset, .unset, .unset, .unset, .unset, .unset, .unset, .unset] [])) t_ → Steps p.tables e below (s₁.setTop (entryFrame m #[(.int p1), (.int p2), (.int p3), (.int p4), (.int p5), (.int p6)] maxLocals)) t_ := fun t_ k_ => castTop (ef_rm0 m p1 p2 p3 p4 p5 p6) k_
  have pre101 : ∀ t_, Steps p.tables e below (s₁.setTop (mkF m 16 #[.val (.int p1), .val (.int p2), .val (.int p3), .val (.int p4), .val (.int p5), .val (.int p6), .val (.int (p1.toInt16.toInt32)), .val (.int (p2.toInt16.toInt32)), .val (.int (p3.toInt16.toInt32)), .unset, .unset, .unset, .unset, .unset, .unset, .unset] [(.int (p6 &&& (1 : Int32)))])) t_ → Steps p.tables e below (s₁.setTop (entryFrame m #[(.int p1), (.int p2), (.int p3), (.int p4), (.int p5), (.int p6)] maxLocals)) t_ := fun t_ k_ => pre0 _ (by
    show Steps p.tables e below (s₁.setTop (mkF m 0 #[.val (.int p1), .val (.int p2), .val (.int p3), .val (.int p4), .val (.int p5), .val (.int p6), .unset, .unset, .unset, .unset, .unset, .unset, .unset, .unset, .unset, .unset] [])) _
    refine XS.iloadN X0.here hx rfl (hb hby at_0) rfl ?_
    show Steps p.tables e below (s₁.setTop (mkF m 1 #[.val (.int p1), .val (.int p2), .val (.int p3), .val (.int p4), .val (.int p5), .val (.int p6), .unset, .unset, .unset, .unset, .unset, .unset, .unset, .unset, .unset, .unset] [(.int p1)])) _
    refine XS.i2s X0.here hx rfl (hb hby at_1) rfl ?_
    show Steps p.tables e below (s₁.setTop (mkF m 2 #[.val (.int p1), .val (.int p2), .val (.int p3), .val (.int p4), .val (.int p5), .val (.int p6), .unset, .unset, .unset, .unset, .unset, .unset, .unset, .unset, .unset, .unset] [(.int (p1.toInt16.toInt32))])) _
    refine XS.istore X0.here hx rfl (hb hby at_2) rfl (l' := #[.val (.int p1), .val (.int p2), .val (.int p3), .val (.int p4), .val (.int p5), .val (.int p6), .val (.int (p1.toInt16.toInt32)), .unset, .unset, .unset, .unset, .unset, .unset, .unset, .unset, .unset]) rfl ?_
    show Steps p.tables e below (s₁.setTop (mkF m 4 #[.val (.int p1), .val (.int p2), .val (.int p3), .val (.int p4), .val (.int p5), .val (.int p6), .val (.int (p1.toInt16.toInt32)), .unset, .unset, .unset, .unset, .unset, .unset, .unset, .unset, .unset] [])) _
    refine XS.iloadN X0.here hx rfl (hb hby at_4) rfl ?_
    show Steps p.tables e below (s₁.setTop (mkF m 5 #[.val (.int p1), .val (.int p2), .val (.int p3), .val (.int p4), .val (.int p5), .val (.int p6), .val (.int (p1.toInt16.toInt32)), .unset, .unset, .unset, .unset, .unset, .unset, .unset, .unset, .unset] [(.int p2)])) _
    refine XS.i2s X0.here hx rfl (hb hby at_5) rfl ?_
    show Steps p.tables e below (s₁.setTop (mkF m 6 #[.val (.int p1), .val (.int p2), .val (.int p3), .val (.int p4), .val (.int p5), .val (.int p6), .val (.int (p1.toInt16.toInt32)), .unset, .unset, .unset, .unset, .unset, .unset, .unset, .unset, .unset] [(.int (p2.toInt16.toInt32))])) _
    refine XS.istore X0.here hx rfl (hb hby at_6) rfl (l' := #[.val (.int p1), .val (.int p2), .val (.int p3), .val (.int p4), .val (.int p5), .val (.int p6), .val (.int (p1.toInt16.toInt32)), .val (.int (p2.toInt16.toInt32)), .unset, .unset, .unset, .unset, .unset, .unset, .unset, .unset]) rfl ?_
    show Steps p.tables e below (s₁.setTop (mkF m 8 #[.val (.int p1), .val (.int p2), .val (.int p3), .val (.int p4), .val (.int p5), .val (.int p6), .val (.int (p1.toInt16.toInt32)), .val (.int (p2.toInt16.toInt32)), .unset, .unset, .unset, .unset, .unset, .unset, .unset, .unset] [])) _
    refine XS.iloadN X0.here hx rfl (hb hby at_8) rfl ?_
    show Steps p.tables e below (s₁.setTop (mkF m 9 #[.val (.int p1), .val (.int p2), .val (.int p3), .val (.int p4), .val (.int p5), .val (.int p6), .val (.int (p1.toInt16.toInt32)), .val (.int (p2.toInt16.toInt32)), .unset, .unset, .unset, .unset, .unset, .unset, .unset, .unset] [(.int p3)])) _
    refine XS.i2s X0.here hx rfl (hb hby at_9) rfl ?_
    show Steps p.tables e below (s₁.setTop (mkF m 10 #[.val (.int p1), .val (.int p2), .val (.int p3), .val (.int p4), .val (.int p5), .val (.int p6), .val (.int (p1.toInt16.toInt32)), .val (.int (p2.toInt16.toInt32)), .unset, .unset, .unset, .unset, .unset, .unset, .unset, .unset] [(.int (p3.toInt16.toInt32))])) _
    refine XS.istore X0.here hx rfl (hb hby at_10) rfl (l' := #[.val (.int p1), .val (.int p2), .val (.int p3), .val (.int p4), .val (.int p5), .val (.int p6), .val (.int (p1.toInt16.toInt32)), .val (.int (p2.toInt16.toInt32)), .val (.int (p3.toInt16.toInt32)), .unset, .unset, .unset, .unset, .unset, .unset, .unset]) rfl ?_
    show Steps p.tables e below (s₁.setTop (mkF m 12 #[.val (.int p1), .val (.int p2), .val (.int p3), .val (.int p4), .val (.int p5), .val (.int p6), .val (.int (p1.toInt16.toInt32)), .val (.int (p2.toInt16.toInt32)), .val (.int (p3.toInt16.toInt32)), .unset, .unset, .unset, .unset, .unset, .unset, .unset] [])) _
    refine XS.iload X0.here hx rfl (hb hby at_12) rfl ?_
    show Steps p.tables e below (s₁.setTop (mkF m 14 #[.val (.int p1), .val (.int p2), .val (.int p3), .val (.int p4), .val (.int p5), .val (.int p6), .val (.int (p1.toInt16.toInt32)), .val (.int (p2.toInt16.toInt32)), .val (.int (p3.toInt16.toInt32)), .unset, .unset, .unset, .unset, .unset, .unset, .unset] [(.int p6)])) _
    refine XS.iconst X0.here hx rfl (hb hby at_14) ?_
    show Steps p.tables e below (s₁.setTop (mkF m 15 #[.val (.int p1), .val (.int p2), .val (.int p3), .val (.int p4), .val (.int p5), .val (.int p6), .val (.int (p1.toInt16.toInt32)), .val (.int (p2.toInt16.toInt32)), .val (.int (p3.toInt16.toInt32)), .unset, .unset, .unset, .unset, .unset, .unset, .unset] [(.int (1 : Int32)), (.int p6)])) _
    refine XS.iand X0.here hx rfl (hb hby at_15) rfl ?_
    exact k_)
  obtain ⟨k, hv_k, pre102⟩ : ∃ z_ : Int32, z_ = (p1.toInt16.toInt32) ∧ ∀ t_, Steps p.tables e below (s₁.setTop (mkF m 16 #[.val (.int p1), .val (.int p2), .val (.int p3), .val (.int p4), .val (.int p5), .val (.int p6), .val (.int z_), .val (.int (p2.toInt16.toInt32)), .val (.int (p3.toInt16.toInt32)), .unset, .unset, .unset, .unset, .unset, .unset, .unset] [(.int (p6 &&& (1 : Int32)))])) t_ → Steps p.tables e below (s₁.setTop (entryFrame m #[(.int p1), (.int p2), (.int p3), (.int p4), (.int p5), (.int p6)] maxLocals)) t_ := ⟨_, rfl, fun t_ k_ => pre101 _ (by
    exact k_)⟩
  have hs_k : nar .short k = k := by rw [hv_k]; exact own_nars _
  obtain ⟨lo, hv_lo, pre103⟩ : ∃ z_ : Int32, z_ = (p2.toInt16.toInt32) ∧ ∀ t_, Steps p.tables e below (s₁.setTop (mkF m 16 #[.val (.int p1), .val (.int p2), .val (.int p3), .val (.int p4), .val (.int p5), .val (.int p6), .val (.int k), .val (.int z_), .val (.int (p3.toInt16.toInt32)), .unset, .unset, .unset, .unset, .unset, .unset, .unset] [(.int (p6 &&& (1 : Int32)))])) t_ → Steps p.tables e below (s₁.setTop (entryFrame m #[(.int p1), (.int p2), (.int p3), (.int p4), (.int p5), (.int p6)] maxLocals)) t_ := ⟨_, rfl, fun t_ k_ => pre102 _ (by
    exact k_)⟩
  have hs_lo : nar .short lo = lo := by rw [hv_lo]; exact own_nars _
  obtain ⟨hi, hv_hi, pre104⟩ : ∃ z_ : Int32, z_ = (p3.toInt16.toInt32) ∧ ∀ t_, Steps p.tables e below (s₁.setTop (mkF m 16 #[.val (.int p1), .val (.int p2), .val (.int p3), .val (.int p4), .val (.int p5), .val (.int p6), .val (.int k), .val (.int lo), .val (.int z_), .unset, .unset, .unset, .unset, .unset, .unset, .unset] [(.int (p6 &&& (1 : Int32)))])) t_ → Steps p.tables e below (s₁.setTop (entryFrame m #[(.int p1), (.int p2), (.int p3), (.int p4), (.int p5), (.int p6)] maxLocals)) t_ := ⟨_, rfl, fun t_ k_ => pre103 _ (by
    exact k_)⟩
  have hs_hi : nar .short hi = hi := by rw [hv_hi]; exact own_nars _
  obtain ⟨k2, hj_k2, pre105⟩ : ∃ k2 : Int32, (nar .short k2 = k2) ∧ ∀ t_, Steps p.tables e below (s₁.setTop (mkF m 26 #[.val (.int p1), .val (.int p2), .val (.int p3), .val (.int p4), .val (.int p5), .val (.int p6), .val (.int k), .val (.int lo), .val (.int hi), .unset, .unset, .unset, .unset, .unset, .unset, .unset] [(.int k2)])) t_ → Steps p.tables e below (s₁.setTop (entryFrame m #[(.int p1), (.int p2), (.int p3), (.int p4), (.int p5), (.int p6)] maxLocals)) t_ := by
    by_cases hf : (p6 &&& (1 : Int32)) = (0 : Int32)
    · skip
      have pre106 : ∀ t_, Steps p.tables e below (s₁.setTop (mkF m 26 #[.val (.int p1), .val (.int p2), .val (.int p3), .val (.int p4), .val (.int p5), .val (.int p6), .val (.int k), .val (.int lo), .val (.int hi), .unset, .unset, .unset, .unset, .unset, .unset, .unset] [(.int (p4.toInt16.toInt32))])) t_ → Steps p.tables e below (s₁.setTop (entryFrame m #[(.int p1), (.int p2), (.int p3), (.int p4), (.int p5), (.int p6)] maxLocals)) t_ := fun t_ k_ => pre104 _ (by
        show Steps p.tables e below (s₁.setTop (mkF m 16 #[.val (.int p1), .val (.int p2), .val (.int p3), .val (.int p4), .val (.int p5), .val (.int p6), .val (.int k), .val (.int lo), .val (.int hi), .unset, .unset, .unset, .unset, .unset, .unset, .unset] [(.int (p6 &&& (1 : Int32)))])) _
        refine XS.ifYes X0.here hx rfl (pc0 := 16) (pc' := 24) rfl (hb hby at_16) rfl ((if0 _ _).trans (teq hf).1) (by decide) (by decide) ?_
        show Steps p.tables e below (s₁.setTop (mkF m 24 #[.val (.int p1), .val (.int p2), .val (.int p3), .val (.int p4), .val (.int p5), .val (.int p6), .val (.int k), .val (.int lo), .val (.int hi), .unset, .unset, .unset, .unset, .unset, .unset, .unset] [])) _
        refine XS.iloadN X0.here hx rfl (hb hby at_24) rfl ?_
        show Steps p.tables e below (s₁.setTop (mkF m 25 #[.val (.int p1), .val (.int p2), .val (.int p3), .val (.int p4), .val (.int p5), .val (.int p6), .val (.int k), .val (.int lo), .val (.int hi), .unset, .unset, .unset, .unset, .unset, .unset, .unset] [(.int p4)])) _
        refine XS.i2s X0.here hx rfl (hb hby at_25) rfl ?_
        exact k_)
      exact ⟨(p4.toInt16.toInt32), own_nars _, pre106⟩
    · skip
      have pre107 : ∀ t_, Steps p.tables e below (s₁.setTop (mkF m 26 #[.val (.int p1), .val (.int p2), .val (.int p3), .val (.int p4), .val (.int p5), .val (.int p6), .val (.int k), .val (.int lo), .val (.int hi), .unset, .unset, .unset, .unset, .unset, .unset, .unset] [(.int k)])) t_ → Steps p.tables e below (s₁.setTop (entryFrame m #[(.int p1), (.int p2), (.int p3), (.int p4), (.int p5), (.int p6)] maxLocals)) t_ := fun t_ k_ => pre104 _ (by
        show Steps p.tables e below (s₁.setTop (mkF m 16 #[.val (.int p1), .val (.int p2), .val (.int p3), .val (.int p4), .val (.int p5), .val (.int p6), .val (.int k), .val (.int lo), .val (.int hi), .unset, .unset, .unset, .unset, .unset, .unset, .unset] [(.int (p6 &&& (1 : Int32)))])) _
        refine XS.ifNo X0.here hx rfl (hb hby at_16) rfl ((if0 _ _).trans (feq hf).1) ?_
        show Steps p.tables e below (s₁.setTop (mkF m 19 #[.val (.int p1), .val (.int p2), .val (.int p3), .val (.int p4), .val (.int p5), .val (.int p6), .val (.int k), .val (.int lo), .val (.int hi), .unset, .unset, .unset, .unset, .unset, .unset, .unset] [])) _
        refine XS.iload X0.here hx rfl (hb hby at_19) rfl ?_
        show Steps p.tables e below (s₁.setTop (mkF m 21 #[.val (.int p1), .val (.int p2), .val (.int p3), .val (.int p4), .val (.int p5), .val (.int p6), .val (.int k), .val (.int lo), .val (.int hi), .unset, .unset, .unset, .unset, .unset, .unset, .unset] [(.int k)])) _
        refine XS.goto X0.here hx rfl (pc0 := 21) (pc' := 26) rfl (hb hby at_21) (by decide) (by decide) ?_
        exact k_)
      exact ⟨k, hs_k, pre107⟩
  have pre108 : ∀ t_, Steps p.tables e below (s₁.setTop (mkF m 32 #[.val (.int p1), .val (.int p2), .val (.int p3), .val (.int p4), .val (.int p5), .val (.int p6), .val (.int k), .val (.int lo), .val (.int hi), .val (.int k2), .unset, .unset, .unset, .unset, .unset, .unset] [(.int (p6 &&& (2 : Int32)))])) t_ → Steps p.tables e below (s₁.setTop (entryFrame m #[(.int p1), (.int p2), (.int p3), (.int p4), (.int p5), (.int p6)] maxLocals)) t_ := fun t_ k_ => pre105 _ (by
    show Steps p.tables e below (s₁.setTop (mkF m 26 #[.val (.int p1), .val (.int p2), .val (.int p3), .val (.int p4), .val (.int p5), .val (.int p6), .val (.int k), .val (.int lo), .val (.int hi), .unset, .unset, .unset, .unset, .unset, .unset, .unset] [(.int k2)])) _
    refine XS.istore X0.here hx rfl (hb hby at_26) rfl (l' := #[.val (.int p1), .val (.int p2), .val (.int p3), .val (.int p4), .val (.int p5), .val (.int p6), .val (.int k), .val (.int lo), .val (.int hi), .val (.int k2), .unset, .unset, .unset, .unset, .unset, .unset]) rfl ?_
    show Steps p.tables e below (s₁.setTop (mkF m 28 #[.val (.int p1), .val (.int p2), .val (.int p3), .val (.int p4), .val (.int p5), .val (.int p6), .val (.int k), .val (.int lo), .val (.int hi), .val (.int k2), .unset, .unset, .unset, .unset, .unset, .unset] [])) _
    refine XS.iload X0.here hx rfl (hb hby at_28) rfl ?_
    show Steps p.tables e below (s₁.setTop (mkF m 30 #[.val (.int p1), .val (.int p2), .val (.int p3), .val (.int p4), .val (.int p5), .val (.int p6), .val (.int k), .val (.int lo), .val (.int hi), .val (.int k2), .unset, .unset, .unset, .unset, .unset, .unset] [(.int p6)])) _
    refine XS.iconst X0.here hx rfl (hb hby at_30) ?_
    show Steps p.tables e below (s₁.setTop (mkF m 31 #[.val (.int p1), .val (.int p2), .val (.int p3), .val (.int p4), .val (.int p5), .val (.int p6), .val (.int k), .val (.int lo), .val (.int hi), .val (.int k2), .unset, .unset, .unset, .unset, .unset, .unset] [(.int (2 : Int32)), (.int p6)])) _
    refine XS.iand X0.here hx rfl (hb hby at_31) rfl ?_
    exact k_)
  obtain ⟨lo2, hj_lo2, pre109⟩ : ∃ lo2 : Int32, (nar .short lo2 = lo2) ∧ ∀ t_, Steps p.tables e below (s₁.setTop (mkF m 43 #[.val (.int p1), .val (.int p2), .val (.int p3), .val (.int p4), .val (.int p5), .val (.int p6), .val (.int k), .val (.int lo), .val (.int hi), .val (.int k2), .unset, .unset, .unset, .unset, .unset, .unset] [(.int lo2)])) t_ → Steps p.tables e below (s₁.setTop (entryFrame m #[(.int p1), (.int p2), (.int p3), (.int p4), (.int p5), (.int p6)] maxLocals)) t_ := by
    by_cases hf : (p6 &&& (2 : Int32)) = (0 : Int32)
    · skip
      have pre110 : ∀ t_, Steps p.tables e below (s₁.setTop (mkF m 43 #[.val (.int p1), .val (.int p2), .val (.int p3), .val (.int p4), .val (.int p5), .val (.int p6), .val (.int k), .val (.int lo), .val (.int hi), .val (.int k2), .unset, .unset, .unset, .unset, .unset, .unset] [(.int (p5.toInt16.toInt32))])) t_ → Steps p.tables e below (s₁.setTop (entryFrame m #[(.int p1), (.int p2), (.int p3), (.int p4), (.int p5), (.int p6)] maxLocals)) t_ := fun t_ k_ => pre108 _ (by
        show Steps p.tables e below (s₁.setTop (mkF m 32 #[.val (.int p1), .val (.int p2), .val (.int p3), .val (.int p4), .val (.int p5), .val (.int p6), .val (.int k), .val (.int lo), .val (.int hi), .val (.int k2), .unset, .unset, .unset, .unset, .unset, .unset] [(.int (p6 &&& (2 : Int32)))])) _
        refine XS.ifYes X0.here hx rfl (pc0 := 32) (pc' := 40) rfl (hb hby at_32) rfl ((if0 _ _).trans (teq hf).1) (by decide) (by decide) ?_
        show Steps p.tables e below (s₁.setTop (mkF m 40 #[.val (.int p1), .val (.int p2), .val (.int p3), .val (.int p4), .val (.int p5), .val (.int p6), .val (.int k), .val (.int lo), .val (.int hi), .val (.int k2), .unset, .unset, .unset, .unset, .unset, .unset] [])) _
        refine XS.iload X0.here hx rfl (hb hby at_40) rfl ?_
        show Steps p.tables e below (s₁.setTop (mkF m 42 #[.val (.int p1), .val (.int p2), .val (.int p3), .val (.int p4), .val (.int p5), .val (.int p6), .val (.int k), .val (.int lo), .val (.int hi), .val (.int k2), .unset, .unset, .unset, .unset, .unset, .unset] [(.int p5)])) _
        refine XS.i2s X0.here hx rfl (hb hby at_42) rfl ?_
        exact k_)
      exact ⟨(p5.toInt16.toInt32), own_nars _, pre110⟩
    · skip
      have pre111 : ∀ t_, Steps p.tables e below (s₁.setTop (mkF m 43 #[.val (.int p1), .val (.int p2), .val (.int p3), .val (.int p4), .val (.int p5), .val (.int p6), .val (.int k), .val (.int lo), .val (.int hi), .val (.int k2), .unset, .unset, .unset, .unset, .unset, .unset] [(.int lo)])) t_ → Steps p.tables e below (s₁.setTop (entryFrame m #[(.int p1), (.int p2), (.int p3), (.int p4), (.int p5), (.int p6)] maxLocals)) t_ := fun t_ k_ => pre108 _ (by
        show Steps p.tables e below (s₁.setTop (mkF m 32 #[.val (.int p1), .val (.int p2), .val (.int p3), .val (.int p4), .val (.int p5), .val (.int p6), .val (.int k), .val (.int lo), .val (.int hi), .val (.int k2), .unset, .unset, .unset, .unset, .unset, .unset] [(.int (p6 &&& (2 : Int32)))])) _
        refine XS.ifNo X0.here hx rfl (hb hby at_32) rfl ((if0 _ _).trans (feq hf).1) ?_
        show Steps p.tables e below (s₁.setTop (mkF m 35 #[.val (.int p1), .val (.int p2), .val (.int p3), .val (.int p4), .val (.int p5), .val (.int p6), .val (.int k), .val (.int lo), .val (.int hi), .val (.int k2), .unset, .unset, .unset, .unset, .unset, .unset] [])) _
        refine XS.iload X0.here hx rfl (hb hby at_35) rfl ?_
        show Steps p.tables e below (s₁.setTop (mkF m 37 #[.val (.int p1), .val (.int p2), .val (.int p3), .val (.int p4), .val (.int p5), .val (.int p6), .val (.int k), .val (.int lo), .val (.int hi), .val (.int k2), .unset, .unset, .unset, .unset, .unset, .unset] [(.int lo)])) _
        refine XS.goto X0.here hx rfl (pc0 := 37) (pc' := 43) rfl (hb hby at_37) (by decide) (by decide) ?_
        exact k_)
      exact ⟨lo, hs_lo, pre111⟩
  have pre112 : ∀ t_, Steps p.tables e below (s₁.setTop (mkF m 49 #[.val (.int p1), .val (.int p2), .val (.int p3), .val (.int p4), .val (.int p5), .val (.int p6), .val (.int k), .val (.int lo), .val (.int hi), .val (.int k2), .val (.int lo2), .unset, .unset, .unset, .unset, .unset] [(.int (p6 &&& (4 : Int32)))])) t_ → Steps p.tables e below (s₁.setTop (entryFrame m #[(.int p1), (.int p2), (.int p3), (.int p4), (.int p5), (.int p6)] maxLocals)) t_ := fun t_ k_ => pre109 _ (by
    show Steps p.tables e below (s₁.setTop (mkF m 43 #[.val (.int p1), .val (.int p2), .val (.int p3), .val (.int p4), .val (.int p5), .val (.int p6), .val (.int k), .val (.int lo), .val (.int hi), .val (.int k2), .unset, .unset, .unset, .unset, .unset, .unset] [(.int lo2)])) _
    refine XS.istore X0.here hx rfl (hb hby at_43) rfl (l' := #[.val (.int p1), .val (.int p2), .val (.int p3), .val (.int p4), .val (.int p5), .val (.int p6), .val (.int k), .val (.int lo), .val (.int hi), .val (.int k2), .val (.int lo2), .unset, .unset, .unset, .unset, .unset]) rfl ?_
    show Steps p.tables e below (s₁.setTop (mkF m 45 #[.val (.int p1), .val (.int p2), .val (.int p3), .val (.int p4), .val (.int p5), .val (.int p6), .val (.int k), .val (.int lo), .val (.int hi), .val (.int k2), .val (.int lo2), .unset, .unset, .unset, .unset, .unset] [])) _
    refine XS.iload X0.here hx rfl (hb hby at_45) rfl ?_
    show Steps p.tables e below (s₁.setTop (mkF m 47 #[.val (.int p1), .val (.int p2), .val (.int p3), .val (.int p4), .val (.int p5), .val (.int p6), .val (.int k), .val (.int lo), .val (.int hi), .val (.int k2), .val (.int lo2), .unset, .unset, .unset, .unset, .unset] [(.int p6)])) _
    refine XS.iconst X0.here hx rfl (hb hby at_47) ?_
    show Steps p.tables e below (s₁.setTop (mkF m 48 #[.val (.int p1), .val (.int p2), .val (.int p3), .val (.int p4), .val (.int p5), .val (.int p6), .val (.int k), .val (.int lo), .val (.int hi), .val (.int k2), .val (.int lo2), .unset, .unset, .unset, .unset, .unset] [(.int (4 : Int32)), (.int p6)])) _
    refine XS.iand X0.here hx rfl (hb hby at_48) rfl ?_
    exact k_)
  obtain ⟨hi2, hj_hi2, pre113⟩ : ∃ hi2 : Int32, (nar .short hi2 = hi2) ∧ ∀ t_, Steps p.tables e below (s₁.setTop (mkF m 62 #[.val (.int p1), .val (.int p2), .val (.int p3), .val (.int p4), .val (.int p5), .val (.int p6), .val (.int k), .val (.int lo), .val (.int hi), .val (.int k2), .val (.int lo2), .unset, .unset, .unset, .unset, .unset] [(.int hi2)])) t_ → Steps p.tables e below (s₁.setTop (entryFrame m #[(.int p1), (.int p2), (.int p3), (.int p4), (.int p5), (.int p6)] maxLocals)) t_ := by
    by_cases hf : (p6 &&& (4 : Int32)) = (0 : Int32)
    · skip
      have pre114 : ∀ t_, Steps p.tables e below (s₁.setTop (mkF m 62 #[.val (.int p1), .val (.int p2), .val (.int p3), .val (.int p4), .val (.int p5), .val (.int p6), .val (.int k), .val (.int lo), .val (.int hi), .val (.int k2), .val (.int lo2), .unset, .unset, .unset, .unset, .unset] [(.int ((p6 >>> ((5 : Int32) &&& 31)).toInt16.toInt32))])) t_ → Steps p.tables e below (s₁.setTop (entryFrame m #[(.int p1), (.int p2), (.int p3), (.int p4), (.int p5), (.int p6)] maxLocals)) t_ := fun t_ k_ => pre112 _ (by
        show Steps p.tables e below (s₁.setTop (mkF m 49 #[.val (.int p1), .val (.int p2), .val (.int p3), .val (.int p4), .val (.int p5), .val (.int p6), .val (.int k), .val (.int lo), .val (.int hi), .val (.int k2), .val (.int lo2), .unset, .unset, .unset, .unset, .unset] [(.int (p6 &&& (4 : Int32)))])) _
        refine XS.ifYes X0.here hx rfl (pc0 := 49) (pc' := 57) rfl (hb hby at_49) rfl ((if0 _ _).trans (teq hf).1) (by decide) (by decide) ?_
        show Steps p.tables e below (s₁.setTop (mkF m 57 #[.val (.int p1), .val (.int p2), .val (.int p3), .val (.int p4), .val (.int p5), .val (.int p6), .val (.int k), .val (.int lo), .val (.int hi), .val (.int k2), .val (.int lo2), .unset, .unset, .unset, .unset, .unset] [])) _
        refine XS.iload X0.here hx rfl (hb hby at_57) rfl ?_
        show Steps p.tables e below (s₁.setTop (mkF m 59 #[.val (.int p1), .val (.int p2), .val (.int p3), .val (.int p4), .val (.int p5), .val (.int p6), .val (.int k), .val (.int lo), .val (.int hi), .val (.int k2), .val (.int lo2), .unset, .unset, .unset, .unset, .unset] [(.int p6)])) _
        refine XS.iconst X0.here hx rfl (hb hby at_59) ?_
        show Steps p.tables e below (s₁.setTop (mkF m 60 #[.val (.int p1), .val (.int p2), .val (.int p3), .val (.int p4), .val (.int p5), .val (.int p6), .val (.int k), .val (.int lo), .val (.int hi), .val (.int k2), .val (.int lo2), .unset, .unset, .unset, .unset, .unset] [(.int (5 : Int32)), (.int p6)])) _
        refine XS.ishr X0.here hx rfl (hb hby at_60) rfl ?_
        show Steps p.tables e below (s₁.setTop (mkF m 61 #[.val (.int p1), .val (.int p2), .val (.int p3), .val (.int p4), .val (.int p5), .val (.int p6), .val (.int k), .val (.int lo), .val (.int hi), .val (.int k2), .val (.int lo2), .unset, .unset, .unset, .unset, .unset] [(.int (p6 >>> ((5 : Int32) &&& 31)))])) _
        refine XS.i2s X0.here hx rfl (hb hby at_61) rfl ?_
        exact k_)
      exact ⟨((p6 >>> ((5 : Int32) &&& 31)).toInt16.toInt32), own_nars _, pre114⟩
    · skip
      have pre115 : ∀ t_, Steps p.tables e below (s₁.setTop (mkF m 62 #[.val (.int p1), .val (.int p2), .val (.int p3), .val (.int p4), .val (.int p5), .val (.int p6), .val (.int k), .val (.int lo), .val (.int hi), .val (.int k2), .val (.int lo2), .unset, .unset, .unset, .unset, .unset] [(.int hi)])) t_ → Steps p.tables e below (s₁.setTop (entryFrame m #[(.int p1), (.int p2), (.int p3), (.int p4), (.int p5), (.int p6)] maxLocals)) t_ := fun t_ k_ => pre112 _ (by
        show Steps p.tables e below (s₁.setTop (mkF m 49 #[.val (.int p1), .val (.int p2), .val (.int p3), .val (.int p4), .val (.int p5), .val (.int p6), .val (.int k), .val (.int lo), .val (.int hi), .val (.int k2), .val (.int lo2), .unset, .unset, .unset, .unset, .unset] [(.int (p6 &&& (4 : Int32)))])) _
        refine XS.ifNo X0.here hx rfl (hb hby at_49) rfl ((if0 _ _).trans (feq hf).1) ?_
        show Steps p.tables e below (s₁.setTop (mkF m 52 #[.val (.int p1), .val (.int p2), .val (.int p3), .val (.int p4), .val (.int p5), .val (.int p6), .val (.int k), .val (.int lo), .val (.int hi), .val (.int k2), .val (.int lo2), .unset, .unset, .unset, .unset, .unset] [])) _
        refine XS.iload X0.here hx rfl (hb hby at_52) rfl ?_
        show Steps p.tables e below (s₁.setTop (mkF m 54 #[.val (.int p1), .val (.int p2), .val (.int p3), .val (.int p4), .val (.int p5), .val (.int p6), .val (.int k), .val (.int lo), .val (.int hi), .val (.int k2), .val (.int lo2), .unset, .unset, .unset, .unset, .unset] [(.int hi)])) _
        refine XS.goto X0.here hx rfl (pc0 := 54) (pc' := 62) rfl (hb hby at_54) (by decide) (by decide) ?_
        exact k_)
      exact ⟨hi, hs_hi, pre115⟩
  obtain ⟨kd, hv_kd, pre116⟩ : ∃ z_ : Int32, z_ = (((p6.toUInt32 >>> ((3 : Int32) &&& 31).toUInt32).toInt32) &&& (3 : Int32)) ∧ ∀ t_, Steps p.tables e below (s₁.setTop (mkF m 72 #[.val (.int p1), .val (.int p2), .val (.int p3), .val (.int p4), .val (.int p5), .val (.int p6), .val (.int k), .val (.int lo), .val (.int hi), .val (.int k2), .val (.int lo2), .val (.int hi2), .val (.int z_), .unset, .unset, .unset] [])) t_ → Steps p.tables e below (s₁.setTop (entryFrame m #[(.int p1), (.int p2), (.int p3), (.int p4), (.int p5), (.int p6)] maxLocals)) t_ := ⟨_, rfl, fun t_ k_ => pre113 _ (by
    show Steps p.tables e below (s₁.setTop (mkF m 62 #[.val (.int p1), .val (.int p2), .val (.int p3), .val (.int p4), .val (.int p5), .val (.int p6), .val (.int k), .val (.int lo), .val (.int hi), .val (.int k2), .val (.int lo2), .unset, .unset, .unset, .unset, .unset] [(.int hi2)])) _
    refine XS.istore X0.here hx rfl (hb hby at_62) rfl (l' := #[.val (.int p1), .val (.int p2), .val (.int p3), .val (.int p4), .val (.int p5), .val (.int p6), .val (.int k), .val (.int lo), .val (.int hi), .val (.int k2), .val (.int lo2), .val (.int hi2), .unset, .unset, .unset, .unset]) rfl ?_
    show Steps p.tables e below (s₁.setTop (mkF m 64 #[.val (.int p1), .val (.int p2), .val (.int p3), .val (.int p4), .val (.int p5), .val (.int p6), .val (.int k), .val (.int lo), .val (.int hi), .val (.int k2), .val (.int lo2), .val (.int hi2), .unset, .unset, .unset, .unset] [])) _
    refine XS.iload X0.here hx rfl (hb hby at_64) rfl ?_
    show Steps p.tables e below (s₁.setTop (mkF m 66 #[.val (.int p1), .val (.int p2), .val (.int p3), .val (.int p4), .val (.int p5), .val (.int p6), .val (.int k), .val (.int lo), .val (.int hi), .val (.int k2), .val (.int lo2), .val (.int hi2), .unset, .unset, .unset, .unset] [(.int p6)])) _
    refine XS.iconst X0.here hx rfl (hb hby at_66) ?_
    show Steps p.tables e below (s₁.setTop (mkF m 67 #[.val (.int p1), .val (.int p2), .val (.int p3), .val (.int p4), .val (.int p5), .val (.int p6), .val (.int k), .val (.int lo), .val (.int hi), .val (.int k2), .val (.int lo2), .val (.int hi2), .unset, .unset, .unset, .unset] [(.int (3 : Int32)), (.int p6)])) _
    refine XS.iushr X0.here hx rfl (hb hby at_67) rfl ?_
    show Steps p.tables e below (s₁.setTop (mkF m 68 #[.val (.int p1), .val (.int p2), .val (.int p3), .val (.int p4), .val (.int p5), .val (.int p6), .val (.int k), .val (.int lo), .val (.int hi), .val (.int k2), .val (.int lo2), .val (.int hi2), .unset, .unset, .unset, .unset] [(.int ((p6.toUInt32 >>> ((3 : Int32) &&& 31).toUInt32).toInt32))])) _
    refine XS.iconst X0.here hx rfl (hb hby at_68) ?_
    show Steps p.tables e below (s₁.setTop (mkF m 69 #[.val (.int p1), .val (.int p2), .val (.int p3), .val (.int p4), .val (.int p5), .val (.int p6), .val (.int k), .val (.int lo), .val (.int hi), .val (.int k2), .val (.int lo2), .val (.int hi2), .unset, .unset, .unset, .unset] [(.int (3 : Int32)), (.int ((p6.toUInt32 >>> ((3 : Int32) &&& 31).toUInt32).toInt32))])) _
    refine XS.iand X0.here hx rfl (hb hby at_69) rfl ?_
    show Steps p.tables e below (s₁.setTop (mkF m 70 #[.val (.int p1), .val (.int p2), .val (.int p3), .val (.int p4), .val (.int p5), .val (.int p6), .val (.int k), .val (.int lo), .val (.int hi), .val (.int k2), .val (.int lo2), .val (.int hi2), .unset, .unset, .unset, .unset] [(.int (((p6.toUInt32 >>> ((3 : Int32) &&& 31).toUInt32).toInt32) &&& (3 : Int32)))])) _
    refine XS.istore X0.here hx rfl (hb hby at_70) rfl (l' := #[.val (.int p1), .val (.int p2), .val (.int p3), .val (.int p4), .val (.int p5), .val (.int p6), .val (.int k), .val (.int lo), .val (.int hi), .val (.int k2), .val (.int lo2), .val (.int hi2), .val (.int (((p6.toUInt32 >>> ((3 : Int32) &&& 31).toUInt32).toInt32) &&& (3 : Int32))), .unset, .unset, .unset]) rfl ?_
    exact k_)⟩
  have hs_k2 := hj_k2
  have hs_lo2 := hj_lo2
  have hs_hi2 := hj_hi2
  obtain ⟨T117, h117, X117, e117, Ext_bx, E_bx, D_bx, -, st117⟩ := newO X0 hx hZ hown (hw _ (List.mem_of_getElem? (i := 0) rfl)) (hw _ (List.mem_of_getElem? (i := 1) rfl)) (hw _ (List.mem_of_getElem? (i := 2) rfl)) e0 (g := (mkF m 72 #[.val (.int p1), .val (.int p2), .val (.int p3), .val (.int p4), .val (.int p5), .val (.int p6), .val (.int k), .val (.int lo), .val (.int hi), .val (.int k2), .val (.int lo2), .val (.int hi2), .val (.int kd), .unset, .unset, .unset] [])) rfl (hb hby at_72) (by decide) (by decide)
  obtain ⟨bx, eq_bx⟩ : ∃ z, z = h0.size := ⟨_, rfl⟩
  rw [← eq_bx] at E_bx D_bx st117
  have g_bx : n0 ≤ bx := Nat.le_trans Z0 (Nat.le_of_eq eq_bx.symm)
  have O_118 := O.ext Ext_bx
  have Z119 : n0 ≤ h117.size := Nat.le_trans Z0 (Ext_bx.1)
  have F0_bx : Fld Z h117 bx "com/example/termite/termite/protocol/ApiVersionsResponse$VersionRange" "apiKey" "S" (.int (0 : Int32)) := D_bx (Or.inl (hw _ (List.mem_of_getElem? (i := 15) rfl))) (ty := .short) (by decide)
  have F1_bx : Fld Z h117 bx "com/example/termite/termite/protocol/ApiVersionsResponse$VersionRange" "minVersion" "S" (.int (0 : Int32)) := D_bx (Or.inl (hw _ (List.mem_of_getElem? (i := 17) rfl))) (ty := .short) (by decide)
  have F2_bx : Fld Z h117 bx "com/example/termite/termite/protocol/ApiVersionsResponse$VersionRange" "maxVersion" "S" (.int (0 : Int32)) := D_bx (Or.inl (hw _ (List.mem_of_getElem? (i := 19) rfl))) (ty := .short) (by decide)
  obtain ⟨_, _, ⟨T120, L120, k120, n120⟩, -, X120, ⟨Lc120, hQ120, l120, y120, z120⟩, st120⟩ := X117.specialBack hx (y := (⟨"com/example/termite/termite/protocol/ApiVersionsResponse$VersionRange", "<init>", "(SSS)V"⟩ : MethodName)) rfl hown (mvT hZ (hw _ (List.mem_of_getElem? (i := 3) rfl))) (mvT hZ (hw _ (List.mem_of_getElem? (i := 4) rfl))) (mvT hZ (hw _ (List.mem_of_getElem? (i := 5) rfl))) (by decide) (backOf (W := 1) (rmC l Z a0 hw [] bx k lo hi h117 n0 Z119 E_bx F0_bx F1_bx F2_bx g_bx) hZ (hw _ (List.mem_of_getElem? (i := 5) rfl)) (hw _ (List.mem_of_getElem? (i := 2) rfl)) (by decide) (by decide)) (g := (mkF m 82 #[.val (.int p1), .val (.int p2), .val (.int p3), .val (.int p4), .val (.int p5), .val (.int p6), .val (.int k), .val (.int lo), .val (.int hi), .val (.int k2), .val (.int lo2), .val (.int hi2), .val (.int kd), .unset, .unset, .unset] [(.int hi), (.int lo), (.int k), (.ref bx), (.ref bx)])) rfl (by rw [hml]; rfl) (Steps.refl _) (a := bx) (argsL := [(.int k), (.int lo), (.int hi)]) (rest := [(.ref bx)]) (lenOf pd_2 rfl) rfl (by show 2 * 0 + _ ≤ _; exact Nat.le_of_eq rfl) (hb hby at_82) (fun _ _ => ⟨rfl, e117, (by decide : 1 + 0 ≤ _), (by decide : 3 + 0 ≤ _)⟩)
  dsimp only [Pt.U, Pt.locs, Pt.cells, Pt.slots] at X120 l120 y120 z120 st120 hQ120
  subst l120 y120 z120
  obtain ⟨rfl, N120q, K120, E120, F0120, F1120, F2120⟩ := hQ120
  have N120 := Fr.app N0 N120q
  have Z122 : n0 ≤ T120.heap.size := Nat.le_trans Z119 (K120.1)
  have O_123 := O_118.keep K120 (allS g_bx all0)
  rw [hs_k] at F0120
  rw [hs_lo] at F1120
  rw [hs_hi] at F2120
  obtain ⟨T124, h124, X124, e124, Ext_by_, E_by_, D_by_, -, st124⟩ := newO X120 hx hZ hown (hw _ (List.mem_of_getElem? (i := 0) rfl)) (hw _ (List.mem_of_getElem? (i := 1) rfl)) (hw _ (List.mem_of_getElem? (i := 2) rfl)) rfl (g := (mkF m 87 #[.val (.int p1), .val (.int p2), .val (.int p3), .val (.int p4), .val (.int p5), .val (.int p6), .val (.int k), .val (.int lo), .val (.int hi), .val (.int k2), .val (.int lo2), .val (.int hi2), .val (.int kd), .val (.ref bx), .unset, .unset] [])) rfl (hb hby at_87) (by decide) (by decide)
  obtain ⟨by_, eq_by_⟩ : ∃ z, z = T120.heap.size := ⟨_, rfl⟩
  rw [← eq_by_] at E_by_ D_by_ st124
  have g_by_ : n0 ≤ by_ := Nat.le_trans Z122 (Nat.le_of_eq eq_by_.symm)
  have O_125 := O_123.ext Ext_by_
  have ne_bx_by_ : bx ≠ by_ := Nat.ne_of_lt (Nat.lt_of_lt_of_le E120.lt (Nat.le_of_eq eq_by_.symm))
  have E_bx_126 := E120.ext Ext_by_
  have F0_bx_127 := F0120.ext Ext_by_
  have F1_bx_128 := F1120.ext Ext_by_
  have F2_bx_129 := F2120.ext Ext_by_
  have Z130 : n0 ≤ h124.size := Nat.le_trans Z122 (Ext_by_.1)
  have F0_by_ : Fld Z h124 by_ "com/example/termite/termite/protocol/ApiVersionsResponse$VersionRange" "apiKey" "S" (.int (0 : Int32)) := D_by_ (Or.inl (hw _ (List.mem_of_getElem? (i := 15) rfl))) (ty := .short) (by decide)
  have F1_by_ : Fld Z h124 by_ "com/example/termite/termite/protocol/ApiVersionsResponse$VersionRange" "minVersion" "S" (.int (0 : Int32)) := D_by_ (Or.inl (hw _ (List.mem_of_getElem? (i := 17) rfl))) (ty := .short) (by decide)
  have F2_by_ : Fld Z h124 by_ "com/example/termite/termite/protocol/ApiVersionsResponse$VersionRange" "maxVersion" "S" (.int (0 : Int32)) := D_by_ (Or.inl (hw _ (List.mem_of_getElem? (i := 19) rfl))) (ty := .short) (by decide)
  obtain ⟨_, _, ⟨T131, L131, k131, n131⟩, -, X131, ⟨Lc131, hQ131, l131, y131, z131⟩, st131⟩ := X124.specialBack hx (y := (⟨"com/example/termite/termite/protocol/ApiVersionsResponse$VersionRange", "<init>", "(SSS)V"⟩ : MethodName)) rfl hown (mvT hZ (hw _ (List.mem_of_getElem? (i := 3) rfl))) (mvT hZ (hw _ (List.mem_of_getElem? (i := 4) rfl))) (mvT hZ (hw _ (List.mem_of_getElem? (i := 5) rfl))) (by decide) (backOf (W := 1) (rmC l Z a0 hw [] by_ k2 lo2 hi2 h124 n0 Z130 E_by_ F0_by_ F1_by_ F2_by_ g_by_) hZ (hw _ (List.mem_of_getElem? (i := 5) rfl)) (hw _ (List.mem_of_getElem? (i := 2) rfl)) (by decide) (by decide)) (g := (mkF m 97 #[.val (.int p1), .val (.int p2), .val (.int p3), .val (.int p4), .val (.int p5), .val (.int p6), .val (.int k), .val (.int lo), .val (.int hi), .val (.int k2), .val (.int lo2), .val (.int hi2), .val (.int kd), .val (.ref bx), .unset, .unset] [(.int hi2), (.int lo2), (.int k2), (.ref by_), (.ref by_)])) rfl (by rw [hml]; rfl) (Steps.refl _) (a := by_) (argsL := [(.int k2), (.int lo2), (.int hi2)]) (rest := [(.ref by_)]) (lenOf pd_2 rfl) rfl (by show 2 * 0 + _ ≤ _; exact Nat.le_of_eq rfl) (hb hby at_97) (fun _ _ => ⟨rfl, e124, (by decide : 2 + 0 ≤ _), (by decide : 6 + 0 ≤ _)⟩)
  dsimp only [Pt.U, Pt.locs, Pt.cells, Pt.slots] at X131 l131 y131 z131 st131 hQ131
  subst l131 y131 z131
  obtain ⟨rfl, N131q, K131, E131, F0131, F1131, F2131⟩ := hQ131
  have N131 := Fr.app N120 N131q
  have E_bx_133 := E_bx_126.keep K131
  have F0_bx_134 := F0_bx_127.keep K131 (ninS ne_bx_by_ nin0)
  have F1_bx_135 := F1_bx_128.keep K131 (ninS ne_bx_by_ nin0)
  have F2_bx_136 := F2_bx_129.keep K131 (ninS ne_bx_by_ nin0)
  have Z138 : n0 ≤ T131.heap.size := Nat.le_trans Z130 (K131.1)
  have O_139 := O_125.keep K131 (allS g_by_ all0)
  rw [hs_k2] at F0131
  rw [hs_lo2] at F1131
  rw [hs_hi2] at F2131
  have pre140 : ∀ t_, Steps p.tables e below (T131.setTop (mkF m 105 #[.val (.int p1), .val (.int p2), .val (.int p3), .val (.int p4), .val (.int p5), .val (.int p6), .val (.int k), .val (.int lo), .val (.int hi), .val (.int k2), .val (.int lo2), .val (.int hi2), .val (.int kd), .val (.ref bx), .val (.ref by_), .unset] [(.int (1 : Int32)), (.int kd)])) t_ → Steps p.tables e below (s₁.setTop (entryFrame m #[(.int p1), (.int p2), (.int p3), (.int p4), (.int p5), (.int p6)] maxLocals)) t_ := fun t_ k_ => pre116 _ (by
    show Steps p.tables e below (s₁.setTop (mkF m 72 #[.val (.int p1), .val (.int p2), .val (.int p3), .val (.int p4), .val (.int p5), .val (.int p6), .val (.int k), .val (.int lo), .val (.int hi), .val (.int k2), .val (.int lo2), .val (.int hi2), .val (.int kd), .unset, .unset, .unset] [])) _
    refine st117 _ ?_
    show Steps p.tables e below (T117.setTop (mkF m 75 #[.val (.int p1), .val (.int p2), .val (.int p3), .val (.int p4), .val (.int p5), .val (.int p6), .val (.int k), .val (.int lo), .val (.int hi), .val (.int k2), .val (.int lo2), .val (.int hi2), .val (.int kd), .unset, .unset, .unset] [(.ref bx)])) _
    refine XS.dup X117.here hx rfl (hb hby at_75) rfl rfl ?_
    show Steps p.tables e below (T117.setTop (mkF m 76 #[.val (.int p1), .val (.int p2), .val (.int p3), .val (.int p4), .val (.int p5), .val (.int p6), .val (.int k), .val (.int lo), .val (.int hi), .val (.int k2), .val (.int lo2), .val (.int hi2), .val (.int kd), .unset, .unset, .unset] [(.ref bx), (.ref bx)])) _
    refine XS.iload X117.here hx rfl (hb hby at_76) rfl ?_
    show Steps p.tables e below (T117.setTop (mkF m 78 #[.val (.int p1), .val (.int p2), .val (.int p3), .val (.int p4), .val (.int p5), .val (.int p6), .val (.int k), .val (.int lo), .val (.int hi), .val (.int k2), .val (.int lo2), .val (.int hi2), .val (.int kd), .unset, .unset, .unset] [(.int k), (.ref bx), (.ref bx)])) _
    refine XS.iload X117.here hx rfl (hb hby at_78) rfl ?_
    show Steps p.tables e below (T117.setTop (mkF m 80 #[.val (.int p1), .val (.int p2), .val (.int p3), .val (.int p4), .val (.int p5), .val (.int p6), .val (.int k), .val (.int lo), .val (.int hi), .val (.int k2), .val (.int lo2), .val (.int hi2), .val (.int kd), .unset, .unset, .unset] [(.int lo), (.int k), (.ref bx), (.ref bx)])) _
    refine XS.iload X117.here hx rfl (hb hby at_80) rfl ?_
    show Steps p.tables e below (T117.setTop (mkF m 82 #[.val (.int p1), .val (.int p2), .val (.int p3), .val (.int p4), .val (.int p5), .val (.int p6), .val (.int k), .val (.int lo), .val (.int hi), .val (.int k2), .val (.int lo2), .val (.int hi2), .val (.int kd), .unset, .unset, .unset] [(.int hi), (.int lo), (.int k), (.ref bx), (.ref bx)])) _
    refine st120.trans ?_
    show Steps p.tables e below (T120.setTop (mkF m 85 #[.val (.int p1), .val (.int p2), .val (.int p3), .val (.int p4), .val (.int p5), .val (.int p6), .val (.int k), .val (.int lo), .val (.int hi), .val (.int k2), .val (.int lo2), .val (.int hi2), .val (.int kd), .unset, .unset, .unset] [(.ref bx)])) _
    refine XS.astore X120.here hx rfl (hb hby at_85) rfl rfl (l' := #[.val (.int p1), .val (.int p2), .val (.int p3), .val (.int p4), .val (.int p5), .val (.int p6), .val (.int k), .val (.int lo), .val (.int hi), .val (.int k2), .val (.int lo2), .val (.int hi2), .val (.int kd), .val (.ref bx), .unset, .unset]) rfl ?_
    show Steps p.tables e below (T120.setTop (mkF m 87 #[.val (.int p1), .val (.int p2), .val (.int p3), .val (.int p4), .val (.int p5), .val (.int p6), .val (.int k), .val (.int lo), .val (.int hi), .val (.int k2), .val (.int lo2), .val (.int hi2), .val (.int kd), .val (.ref bx), .unset, .unset] [])) _
    refine st124 _ ?_
    show Steps p.tables e below (T124.setTop (mkF m 90 #[.val (.int p1), .val (.int p2), .val (.int p3), .val (.int p4), .val (.int p5), .val (.int p6), .val (.int k), .val (.int lo), .val (.int hi), .val (.int k2), .val (.int lo2), .val (.int hi2), .val (.int kd), .val (.ref bx), .unset, .unset] [(.ref by_)])) _
    refine XS.dup X124.here hx rfl (hb hby at_90) rfl rfl ?_
    show Steps p.tables e below (T124.setTop (mkF m 91 #[.val (.int p1), .val (.int p2), .val (.int p3), .val (.int p4), .val (.int p5), .val (.int p6), .val (.int k), .val (.int lo), .val (.int hi), .val (.int k2), .val (.int lo2), .val (.int hi2), .val (.int kd), .val (.ref bx), .unset, .unset] [(.ref by_), (.ref by_)])) _
    refine XS.iload X124.here hx rfl (hb hby at_91) rfl ?_
    show Steps p.tables e below (T124.setTop (mkF m 93 #[.val (.int p1), .val (.int p2), .val (.int p3), .val (.int p4), .val (.int p5), .val (.int p6), .val (.int k), .val (.int lo), .val (.int hi), .val (.int k2), .val (.int lo2), .val (.int hi2), .val (.int kd), .val (.ref bx), .unset, .unset] [(.int k2), (.ref by_), (.ref by_)])) _
    refine XS.iload X124.here hx rfl (hb hby at_93) rfl ?_
    show Steps p.tables e below (T124.setTop (mkF m 95 #[.val (.int p1), .val (.int p2), .val (.int p3), .val (.int p4), .val (.int p5), .val (.int p6), .val (.int k), .val (.int lo), .val (.int hi), .val (.int k2), .val (.int lo2), .val (.int hi2), .val (.int kd), .val (.ref bx), .unset, .unset] [(.int lo2), (.int k2), (.ref by_), (.ref by_)])) _
    refine XS.iload X124.here hx rfl (hb hby at_95) rfl ?_
    show Steps p.tables e below (T124.setTop (mkF m 97 #[.val (.int p1), .val (.int p2), .val (.int p3), .val (.int p4), .val (.int p5), .val (.int p6), .val (.int k), .val (.int lo), .val (.int hi), .val (.int k2), .val (.int lo2), .val (.int hi2), .val (.int kd), .val (.ref bx), .unset, .unset] [(.int hi2), (.int lo2), (.int k2), (.ref by_), (.ref by_)])) _
    refine st131.trans ?_
    show Steps p.tables e below (T131.setTop (mkF m 100 #[.val (.int p1), .val (.int p2), .val (.int p3), .val (.int p4), .val (.int p5), .val (.int p6), .val (.int k), .val (.int lo), .val (.int hi), .val (.int k2), .val (.int lo2), .val (.int hi2), .val (.int kd), .val (.ref bx), .unset, .unset] [(.ref by_)])) _
    refine XS.astore X131.here hx rfl (hb hby at_100) rfl rfl (l' := #[.val (.int p1), .val (.int p2), .val (.int p3), .val (.int p4), .val (.int p5), .val (.int p6), .val (.int k), .val (.int lo), .val (.int hi), .val (.int k2), .val (.int lo2), .val (.int hi2), .val (.int kd), .val (.ref bx), .val (.ref by_), .unset]) rfl ?_
    show Steps p.tables e below (T131.setTop (mkF m 102 #[.val (.int p1), .val (.int p2), .val (.int p3), .val (.int p4), .val (.int p5), .val (.int p6), .val (.int k), .val (.int lo), .val (.int hi), .val (.int k2), .val (.int lo2), .val (.int hi2), .val (.int kd), .val (.ref bx), .val (.ref by_), .unset] [])) _
    refine XS.iload X131.here hx rfl (hb hby at_102) rfl ?_
    show Steps p.tables e below (T131.setTop (mkF m 104 #[.val (.int p1), .val (.int p2), .val (.int p3), .val (.int p4), .val (.int p5), .val (.int p6), .val (.int k), .val (.int lo), .val (.int hi), .val (.int k2), .val (.int lo2), .val (.int hi2), .val (.int kd), .val (.ref bx), .val (.ref by_), .unset] [(.int kd)])) _
    refine XS.iconst X131.here hx rfl (hb hby at_104) ?_
    exact k_)
  by_cases hk1 : kd = (1 : Int32)
  · skip
    obtain ⟨cq141, kq141, q141a, q141b, q141c⟩ := isOf hZ rfl E_bx_133
    obtain ⟨_, _, ⟨T141, L141, k141, n141⟩, -, X141, ⟨Lc141, hQ141, l141, y141, z141⟩, st141⟩ := X131.virtualBack hx (y := (⟨"com/example/termite/termite/protocol/ApiVersionsResponse$VersionRange", "equals", "(Ljava/lang/Object;)Z"⟩ : MethodName)) (z := (⟨"com/example/termite/termite/protocol/ApiVersionsResponse$VersionRange", "equals", "(Ljava/lang/Object;)Z"⟩ : MethodName)) hown (mvT hZ (hw _ (List.mem_of_getElem? (i := 20) rfl))) (mvT hZ (hw _ (List.mem_of_getElem? (i := 21) rfl))) (notFace_of_selects (args := #[]) (mvT hZ (hw _ (List.mem_of_getElem? (i := 23) rfl)))) (mvT hZ (hw _ (List.mem_of_getElem? (i := 23) rfl))) (mvT hZ (hw _ (List.mem_of_getElem? (i := 22) rfl))) (by decide) (backOf (W := 0) (rmE0 l Z a0 hw [] bx T131.heap n0 Z138 ) hZ (hw _ (List.mem_of_getElem? (i := 24) rfl)) (hw _ (List.mem_of_getElem? (i := 2) rfl)) (by decide) (by decide)) q141a q141c (g := (mkF m 111 #[.val (.int p1), .val (.int p2), .val (.int p3), .val (.int p4), .val (.int p5), .val (.int p6), .val (.int k), .val (.int lo), .val (.int hi), .val (.int k2), .val (.int lo2), .val (.int hi2), .val (.int kd), .val (.ref bx), .val (.ref by_), .unset] [.null, (.ref bx)])) rfl (by rw [hml]; rfl) (Steps.refl _) (argsL := [.null]) (rest := []) (lenOf pd_3 rfl) rfl (by show 2 * 0 + _ ≤ _; exact Nat.le_of_eq rfl) (hb hby at_111) (fun _ _ => ⟨rfl, rfl, (by decide : 2 + 0 ≤ _), (by decide : 6 + 0 ≤ _)⟩)
    dsimp only [Pt.U, Pt.locs, Pt.cells, Pt.slots] at X141 l141 y141 z141 st141 hQ141
    subst l141 y141 z141
    obtain ⟨rfl, N141q, e141⟩ := hQ141
    have N141 := Fr.app N131 N141q
    have pre142 : ∀ t_, Steps p.tables e below (T141.setTop (mkF m 122 #[.val (.int p1), .val (.int p2), .val (.int p3), .val (.int p4), .val (.int p5), .val (.int p6), .val (.int k), .val (.int lo), .val (.int hi), .val (.int k2), .val (.int lo2), .val (.int hi2), .val (.int kd), .val (.ref bx), .val (.ref by_), .unset] [(.int (1 : Int32))])) t_ → Steps p.tables e below (s₁.setTop (entryFrame m #[(.int p1), (.int p2), (.int p3), (.int p4), (.int p5), (.int p6)] maxLocals)) t_ := fun t_ k_ => pre140 _ (by
      show Steps p.tables e below (T131.setTop (mkF m 105 #[.val (.int p1), .val (.int p2), .val (.int p3), .val (.int p4), .val (.int p5), .val (.int p6), .val (.int k), .val (.int lo), .val (.int hi), .val (.int k2), .val (.int lo2), .val (.int hi2), .val (.int kd), .val (.ref bx), .val (.ref by_), .unset] [(.int (1 : Int32)), (.int kd)])) _
      refine XS.icmpNo X131.here hx rfl (hb hby at_105) rfl (teq hk1).2 ?_
      show Steps p.tables e below (T131.setTop (mkF m 108 #[.val (.int p1), .val (.int p2), .val (.int p3), .val (.int p4), .val (.int p5), .val (.int p6), .val (.int k), .val (.int lo), .val (.int hi), .val (.int k2), .val (.int lo2), .val (.int hi2), .val (.int kd), .val (.ref bx), .val (.ref by_), .unset] [])) _
      refine XS.aload X131.here hx rfl (hb hby at_108) rfl rfl ?_
      show Steps p.tables e below (T131.setTop (mkF m 110 #[.val (.int p1), .val (.int p2), .val (.int p3), .val (.int p4), .val (.int p5), .val (.int p6), .val (.int k), .val (.int lo), .val (.int hi), .val (.int k2), .val (.int lo2), .val (.int hi2), .val (.int kd), .val (.ref bx), .val (.ref by_), .unset] [(.ref bx)])) _
      refine XS.aconstNull X131.here hx rfl (hb hby at_110) ?_
      show Steps p.tables e below (T131.setTop (mkF m 111 #[.val (.int p1), .val (.int p2), .val (.int p3), .val (.int p4), .val (.int p5), .val (.int p6), .val (.int k), .val (.int lo), .val (.int hi), .val (.int k2), .val (.int lo2), .val (.int hi2), .val (.int kd), .val (.ref bx), .val (.ref by_), .unset] [.null, (.ref bx)])) _
      refine st141.trans ?_
      show Steps p.tables e below (T141.setTop (mkF m 114 #[.val (.int p1), .val (.int p2), .val (.int p3), .val (.int p4), .val (.int p5), .val (.int p6), .val (.int k), .val (.int lo), .val (.int hi), .val (.int k2), .val (.int lo2), .val (.int hi2), .val (.int kd), .val (.ref bx), .val (.ref by_), .unset] [(.int (0 : Int32))])) _
      refine XS.ifNo X141.here hx rfl (hb hby at_114) rfl ((if0 _ _).trans (teq (rfl : (0 : Int32) = 0)).2) ?_
      show Steps p.tables e below (T141.setTop (mkF m 117 #[.val (.int p1), .val (.int p2), .val (.int p3), .val (.int p4), .val (.int p5), .val (.int p6), .val (.int k), .val (.int lo), .val (.int hi), .val (.int k2), .val (.int lo2), .val (.int hi2), .val (.int kd), .val (.ref bx), .val (.ref by_), .unset] [])) _
      refine XS.iconst X141.here hx rfl (hb hby at_117) ?_
      show Steps p.tables e below (T141.setTop (mkF m 118 #[.val (.int p1), .val (.int p2), .val (.int p3), .val (.int p4), .val (.int p5), .val (.int p6), .val (.int k), .val (.int lo), .val (.int hi), .val (.int k2), .val (.int lo2), .val (.int hi2), .val (.int kd), .val (.ref bx), .val (.ref by_), .unset] [(.int (1 : Int32))])) _
      refine XS.goto X141.here hx rfl (pc0 := 118) (pc' := 122) rfl (hb hby at_118) (by decide) (by decide) ?_
      exact k_)
    obtain ⟨fs, hr, hrun, hended, hW, hsame⟩ := X141.leave (v := some (.int (1 : Int32))) (fun h => by rw [Bd.returns] at h; cases h)
    refine ⟨_, _, pre142 _ ?_, hrun, hended, _, _, rfl, ?_, ⟨_, rfl⟩, hW, hsame.mono (by decide) (by decide)⟩
    · show Steps p.tables e below (T141.setTop (mkF m 122 #[.val (.int p1), .val (.int p2), .val (.int p3), .val (.int p4), .val (.int p5), .val (.int p6), .val (.int k), .val (.int lo), .val (.int hi), .val (.int k2), .val (.int lo2), .val (.int hi2), .val (.int kd), .val (.ref bx), .val (.ref by_), .unset] [(.int (1 : Int32))])) _
      exact retN X141 hx (t := .boolean) Bd.returns (by simp) (hb hby at_122) hr
    · show Qrm0 Z p1 p2 p3 p4 p5 p6 ca cc h0 n0 _ T141.heap _
      rw [e141]
      exact ⟨rfl, N141⟩
  · skip
    have pre143 : ∀ t_, Steps p.tables e below (T131.setTop (mkF m 126 #[.val (.int p1), .val (.int p2), .val (.int p3), .val (.int p4), .val (.int p5), .val (.int p6), .val (.int k), .val (.int lo), .val (.int hi), .val (.int k2), .val (.int lo2), .val (.int hi2), .val (.int kd), .val (.ref bx), .val (.ref by_), .unset] [(.int (2 : Int32)), (.int kd)])) t_ → Steps p.tables e below (s₁.setTop (entryFrame m #[(.int p1), (.int p2), (.int p3), (.int p4), (.int p5), (.int p6)] maxLocals)) t_ := fun t_ k_ => pre140 _ (by
      show Steps p.tables e below (T131.setTop (mkF m 105 #[.val (.int p1), .val (.int p2), .val (.int p3), .val (.int p4), .val (.int p5), .val (.int p6), .val (.int k), .val (.int lo), .val (.int hi), .val (.int k2), .val (.int lo2), .val (.int hi2), .val (.int kd), .val (.ref bx), .val (.ref by_), .unset] [(.int (1 : Int32)), (.int kd)])) _
      refine XS.icmpYes X131.here hx rfl (pc0 := 105) (pc' := 123) rfl (hb hby at_105) rfl (feq hk1).2 (by decide) (by decide) ?_
      show Steps p.tables e below (T131.setTop (mkF m 123 #[.val (.int p1), .val (.int p2), .val (.int p3), .val (.int p4), .val (.int p5), .val (.int p6), .val (.int k), .val (.int lo), .val (.int hi), .val (.int k2), .val (.int lo2), .val (.int hi2), .val (.int kd), .val (.ref bx), .val (.ref by_), .unset] [])) _
      refine XS.iload X131.here hx rfl (hb hby at_123) rfl ?_
      show Steps p.tables e below (T131.setTop (mkF m 125 #[.val (.int p1), .val (.int p2), .val (.int p3), .val (.int p4), .val (.int p5), .val (.int p6), .val (.int k), .val (.int lo), .val (.int hi), .val (.int k2), .val (.int lo2), .val (.int hi2), .val (.int kd), .val (.ref bx), .val (.ref by_), .unset] [(.int kd)])) _
      refine XS.iconst X131.here hx rfl (hb hby at_125) ?_
      exact k_)
    by_cases hk2 : kd = (2 : Int32)
    · skip
      obtain ⟨_, _, ⟨T144, L144, k144, n144⟩, -, X144, ⟨Lc144, hQ144, l144, y144, z144⟩, st144⟩ := Jvm.LawKit.callS X131 hx (y := (⟨"java/lang/Integer", "valueOf", "(I)Ljava/lang/Integer;"⟩ : MethodName)) hown (mvT hZ (hw _ (List.mem_of_getElem? (i := 27) rfl))) (mvT hZ (hw _ (List.mem_of_getElem? (i := 28) rfl))) (mvT hZ (hw _ (List.mem_of_getElem? (i := 29) rfl))) (mvT hZ (hw _ (List.mem_of_getElem? (i := 30) rfl))) (by decide) (backOf (W := 1) (rmV l Z a0 hw [] p1 ca cc T131.heap n0 Z138 O_139 S_high S_cache B_c) hZ (hw _ (List.mem_of_getElem? (i := 30) rfl)) (hw _ (List.mem_of_getElem? (i := 29) rfl)) (by decide) (by decide)) (g := (mkF m 132 #[.val (.int p1), .val (.int p2), .val (.int p3), .val (.int p4), .val (.int p5), .val (.int p6), .val (.int k), .val (.int lo), .val (.int hi), .val (.int k2), .val (.int lo2), .val (.int hi2), .val (.int kd), .val (.ref bx), .val (.ref by_), .unset] [(.int p1), (.ref bx)])) rfl (by rw [hml]; rfl) (argsL := [(.int p1)]) (rest := [(.ref bx)]) (lenOf pd_4 rfl) rfl (by show 2 * 0 + _ ≤ _; exact Nat.le_of_eq rfl) (hb hby at_132) (fun _ _ => ⟨rfl, rfl, (by decide : 2 + 1 ≤ _), (by decide : 6 + 1 ≤ _)⟩)
      dsimp only [Pt.U, Pt.locs, Pt.cells, Pt.slots] at X144 l144 y144 z144 st144 hQ144
      subst l144 y144 z144
      obtain ⟨bi144, rfl, N144q, K144, Ei144⟩ := hQ144
      have N144 := Fr.app N131 N144q
      have E_bx_146 := E_bx_133.keep K144
      have F0_bx_147 := F0_bx_134.keep K144 nin0
      have F1_bx_148 := F1_bx_135.keep K144 nin0
      have F2_bx_149 := F2_bx_136.keep K144 nin0
      have E_by__151 := E131.keep K144
      have F0_by__152 := F0131.keep K144 nin0
      have F1_by__153 := F1131.keep K144 nin0
      have F2_by__154 := F2131.keep K144 nin0
      have Z155 : n0 ≤ T144.heap.size := Nat.le_trans Z138 (K144.1)
      obtain ⟨cq156, kq156, q156a, q156b, q156c⟩ := isOf hZ rfl E_bx_146
      obtain ⟨_, _, ⟨T156, L156, k156, n156⟩, -, X156, ⟨Lc156, hQ156, l156, y156, z156⟩, st156⟩ := X144.virtualBack hx (y := (⟨"com/example/termite/termite/protocol/ApiVersionsResponse$VersionRange", "equals", "(Ljava/lang/Object;)Z"⟩ : MethodName)) (z := (⟨"com/example/termite/termite/protocol/ApiVersionsResponse$VersionRange", "equals", "(Ljava/lang/Object;)Z"⟩ : MethodName)) hown (mvT hZ (hw _ (List.mem_of_getElem? (i := 20) rfl))) (mvT hZ (hw _ (List.mem_of_getElem? (i := 21) rfl))) (notFace_of_selects (args := #[]) (mvT hZ (hw _ (List.mem_of_getElem? (i := 23) rfl)))) (mvT hZ (hw _ (List.mem_of_getElem? (i := 23) rfl))) (mvT hZ (hw _ (List.mem_of_getElem? (i := 22) rfl))) (by decide) (backOf (W := 0) (rmE1 l Z a0 hw [] bx bi144 T144.heap n0 Z155 Ei144) hZ (hw _ (List.mem_of_getElem? (i := 24) rfl)) (hw _ (List.mem_of_getElem? (i := 2) rfl)) (by decide) (by decide)) q156a q156c (g := (mkF m 135 #[.val (.int p1), .val (.int p2), .val (.int p3), .val (.int p4), .val (.int p5), .val (.int p6), .val (.int k), .val (.int lo), .val (.int hi), .val (.int k2), .val (.int lo2), .val (.int hi2), .val (.int kd), .val (.ref bx), .val (.ref by_), .unset] [(.ref bi144), (.ref bx)])) rfl (by rw [hml]; rfl) (Steps.refl _) (argsL := [(.ref bi144)]) (rest := []) (lenOf pd_3 rfl) rfl (by show 2 * 0 + _ ≤ _; exact Nat.le_of_eq rfl) (hb hby at_135) (fun _ _ => ⟨rfl, rfl, (by decide : 3 + 0 ≤ _), (by decide : 7 + 0 ≤ _)⟩)
      dsimp only [Pt.U, Pt.locs, Pt.cells, Pt.slots] at X156 l156 y156 z156 st156 hQ156
      subst l156 y156 z156
      obtain ⟨rfl, N156q, e156⟩ := hQ156
      have N156 := Fr.app N144 N156q
      have pre157 : ∀ t_, Steps p.tables e below (T156.setTop (mkF m 146 #[.val (.int p1), .val (.int p2), .val (.int p3), .val (.int p4), .val (.int p5), .val (.int p6), .val (.int k), .val (.int lo), .val (.int hi), .val (.int k2), .val (.int lo2), .val (.int hi2), .val (.int kd), .val (.ref bx), .val (.ref by_), .unset] [(.int (1 : Int32))])) t_ → Steps p.tables e below (s₁.setTop (entryFrame m #[(.int p1), (.int p2), (.int p3), (.int p4), (.int p5), (.int p6)] maxLocals)) t_ := fun t_ k_ => pre143 _ (by
        show Steps p.tables e below (T131.setTop (mkF m 126 #[.val (.int p1), .val (.int p2), .val (.int p3), .val (.int p4), .val (.int p5), .val (.int p6), .val (.int k), .val (.int lo), .val (.int hi), .val (.int k2), .val (.int lo2), .val (.int hi2), .val (.int kd), .val (.ref bx), .val (.ref by_), .unset] [(.int (2 : Int32)), (.int kd)])) _
        refine XS.icmpNo X131.here hx rfl (hb hby at_126) rfl (teq hk2).2 ?_
        show Steps p.tables e below (T131.setTop (mkF m 129 #[.val (.int p1), .val (.int p2), .val (.int p3), .val (.int p4), .val (.int p5), .val (.int p6), .val (.int k), .val (.int lo), .val (.int hi), .val (.int k2), .val (.int lo2), .val (.int hi2), .val (.int kd), .val (.ref bx), .val (.ref by_), .unset] [])) _
        refine XS.aload X131.here hx rfl (hb hby at_129) rfl rfl ?_
        show Steps p.tables e below (T131.setTop (mkF m 131 #[.val (.int p1), .val (.int p2), .val (.int p3), .val (.int p4), .val (.int p5), .val (.int p6), .val (.int k), .val (.int lo), .val (.int hi), .val (.int k2), .val (.int lo2), .val (.int hi2), .val (.int kd), .val (.ref bx), .val (.ref by_), .unset] [(.ref bx)])) _
        refine XS.iloadN X131.here hx rfl (hb hby at_131) rfl ?_
        show Steps p.tables e below (T131.setTop (mkF m 132 #[.val (.int p1), .val (.int p2), .val (.int p3), .val (.int p4), .val (.int p5), .val (.int p6), .val (.int k), .val (.int lo), .val (.int hi), .val (.int k2), .val (.int lo2), .val (.int hi2), .val (.int kd), .val (.ref bx), .val (.ref by_), .unset] [(.int p1), (.ref bx)])) _
        refine st144 _ ?_
        show Steps p.tables e below (T144.setTop (mkF m 135 #[.val (.int p1), .val (.int p2), .val (.int p3), .val (.int p4), .val (.int p5), .val (.int p6), .val (.int k), .val (.int lo), .val (.int hi), .val (.int k2), .val (.int lo2), .val (.int hi2), .val (.int kd), .val (.ref bx), .val (.ref by_), .unset] [(.ref bi144), (.ref bx)])) _
        refine st156.trans ?_
        show Steps p.tables e below (T156.setTop (mkF m 138 #[.val (.int p1), .val (.int p2), .val (.int p3), .val (.int p4), .val (.int p5), .val (.int p6), .val (.int k), .val (.int lo), .val (.int hi), .val (.int k2), .val (.int lo2), .val (.int hi2), .val (.int kd), .val (.ref bx), .val (.ref by_), .unset] [(.int (0 : Int32))])) _
        refine XS.ifNo X156.here hx rfl (hb hby at_138) rfl ((if0 _ _).trans (teq (rfl : (0 : Int32) = 0)).2) ?_
        show Steps p.tables e below (T156.setTop (mkF m 141 #[.val (.int p1), .val (.int p2), .val (.int p3), .val (.int p4), .val (.int p5), .val (.int p6), .val (.int k), .val (.int lo), .val (.int hi), .val (.int k2), .val (.int lo2), .val (.int hi2), .val (.int kd), .val (.ref bx), .val (.ref by_), .unset] [])) _
        refine XS.iconst X156.here hx rfl (hb hby at_141) ?_
        show Steps p.tables e below (T156.setTop (mkF m 142 #[.val (.int p1), .val (.int p2), .val (.int p3), .val (.int p4), .val (.int p5), .val (.int p6), .val (.int k), .val (.int lo), .val (.int hi), .val (.int k2), .val (.int lo2), .val (.int hi2), .val (.int kd), .val (.ref bx), .val (.ref by_), .unset] [(.int (1 : Int32))])) _
        refine XS.goto X156.here hx rfl (pc0 := 142) (pc' := 146) rfl (hb hby at_142) (by decide) (by decide) ?_
        exact k_)
      obtain ⟨fs, hr, hrun, hended, hW, hsame⟩ := X156.leave (v := some (.int (1 : Int32))) (fun h => by rw [Bd.returns] at h; cases h)
      refine ⟨_, _, pre157 _ ?_, hrun, hended, _, _, rfl, ?_, ⟨_, rfl⟩, hW, hsame.mono (by decide) (by decide)⟩
      · show Steps p.tables e below (T156.setTop (mkF m 146 #[.val (.int p1), .val (.int p2), .val (.int p3), .val (.int p4), .val (.int p5), .val (.int p6), .val (.int k), .val (.int lo), .val (.int hi), .val (.int k2), .val (.int lo2), .val (.int hi2), .val (.int kd), .val (.ref bx), .val (.ref by_), .unset] [(.int (1 : Int32))])) _
        exact retN X156 hx (t := .boolean) Bd.returns (by simp) (hb hby at_146) hr
      · show Qrm0 Z p1 p2 p3 p4 p5 p6 ca cc h0 n0 _ T156.heap _
        rw [e156]
        exact ⟨rfl, N156⟩
    · skip
      have pre158 : ∀ t_, Steps p.tables e below (T131.setTop (mkF m 150 #[.val (.int p1), .val (.int p2), .val (.int p3), .val (.int p4), .val (.int p5), .val (.int p6), .val (.int k), .val (.int lo), .val (.int hi), .val (.int k2), .val (.int lo2), .val (.int hi2), .val (.int kd), .val (.ref bx), .val (.ref by_), .unset] [(.int (3 : Int32)), (.int kd)])) t_ → Steps p.tables e below (s₁.setTop (entryFrame m #[(.int p1), (.int p2), (.int p3), (.int p4), (.int p5), (.int p6)] maxLocals)) t_ := fun t_ k_ => pre143 _ (by
        show Steps p.tables e below (T131.setTop (mkF m 126 #[.val (.int p1), .val (.int p2), .val (.int p3), .val (.int p4), .val (.int p5), .val (.int p6), .val (.int k), .val (.int lo), .val (.int hi), .val (.int k2), .val (.int lo2), .val (.int hi2), .val (.int kd), .val (.ref bx), .val (.ref by_), .unset] [(.int (2 : Int32)), (.int kd)])) _
        refine XS.icmpYes X131.here hx rfl (pc0 := 126) (pc' := 147) rfl (hb hby at_126) rfl (feq hk2).2 (by decide) (by decide) ?_
        show Steps p.tables e below (T131.setTop (mkF m 147 #[.val (.int p1), .val (.int p2), .val (.int p3), .val (.int p4), .val (.int p5), .val (.int p6), .val (.int k), .val (.int lo), .val (.int hi), .val (.int k2), .val (.int lo2), .val (.int hi2), .val (.int kd), .val (.ref bx), .val (.ref by_), .unset] [])) _
        refine XS.iload X131.here hx rfl (hb hby at_147) rfl ?_
        show Steps p.tables e below (T131.setTop (mkF m 149 #[.val (.int p1), .val (.int p2), .val (.int p3), .val (.int p4), .val (.int p5), .val (.int p6), .val (.int k), .val (.int lo), .val (.int hi), .val (.int k2), .val (.int lo2), .val (.int hi2), .val (.int kd), .val (.ref bx), .val (.ref by_), .unset] [(.int kd)])) _
        refine XS.iconst X131.here hx rfl (hb hby at_149) ?_
        exact k_)
      by_cases hk3 : kd = (3 : Int32)
      · skip
        obtain ⟨cq159, kq159, q159a, q159b, q159c⟩ := isOf hZ rfl E_bx_133
        obtain ⟨_, _, ⟨T159, L159, k159, n159⟩, -, X159, ⟨Lc159, hQ159, l159, y159, z159⟩, st159⟩ := X131.virtualBack hx (y := (⟨"com/example/termite/termite/protocol/ApiVersionsResponse$VersionRange", "equals", "(Ljava/lang/Object;)Z"⟩ : MethodName)) (z := (⟨"com/example/termite/termite/protocol/ApiVersionsResponse$VersionRange", "equals", "(Ljava/lang/Object;)Z"⟩ : MethodName)) hown (mvT hZ (hw _ (List.mem_of_getElem? (i := 20) rfl))) (mvT hZ (hw _ (List.mem_of_getElem? (i := 21) rfl))) (notFace_of_selects (args := #[]) (mvT hZ (hw _ (List.mem_of_getElem? (i := 23) rfl)))) (mvT hZ (hw _ (List.mem_of_getElem? (i := 23) rfl))) (mvT hZ (hw _ (List.mem_of_getElem? (i := 22) rfl))) (by decide) (backOf (W := 0) (rmE2 l Z a0 hw [] bx bx k lo hi k lo hi T131.heap n0 Z138 E_bx_133 F0_bx_134 F1_bx_135 F2_bx_136 F0_bx_134 F1_bx_135 F2_bx_136) hZ (hw _ (List.mem_of_getElem? (i := 24) rfl)) (hw _ (List.mem_of_getElem? (i := 2) rfl)) (by decide) (by decide)) q159a q159c (g := (mkF m 157 #[.val (.int p1), .val (.int p2), .val (.int p3), .val (.int p4), .val (.int p5), .val (.int p6), .val (.int k), .val (.int lo), .val (.int hi), .val (.int k2), .val (.int lo2), .val (.int hi2), .val (.int kd), .val (.ref bx), .val (.ref by_), .unset] [(.ref bx), (.ref bx)])) rfl (by rw [hml]; rfl) (Steps.refl _) (argsL := [(.ref bx)]) (rest := []) (lenOf pd_3 rfl) rfl (by show 2 * 0 + _ ≤ _; exact Nat.le_of_eq rfl) (hb hby at_157) (fun _ _ => ⟨rfl, rfl, (by decide : 2 + 0 ≤ _), (by decide : 6 + 0 ≤ _)⟩)
        dsimp only [Pt.U, Pt.locs, Pt.cells, Pt.slots] at X159 l159 y159 z159 st159 hQ159
        subst l159 y159 z159
        obtain ⟨rfl, N159q, e159⟩ := hQ159
        have N159 := Fr.app N131 N159q
        have pre160 : ∀ t_, Steps p.tables e below (T159.setTop (mkF m 160 #[.val (.int p1), .val (.int p2), .val (.int p3), .val (.int p4), .val (.int p5), .val (.int p6), .val (.int k), .val (.int lo), .val (.int hi), .val (.int k2), .val (.int lo2), .val (.int hi2), .val (.int kd), .val (.ref bx), .val (.ref by_), .unset] [(.int (own_eq3 k lo hi k lo hi))])) t_ → Steps p.tables e below (s₁.setTop (entryFrame m #[(.int p1), (.int p2), (.int p3), (.int p4), (.int p5), (.int p6)] maxLocals)) t_ := fun t_ k_ => pre158 _ (by
          show Steps p.tables e below (T131.setTop (mkF m 150 #[.val (.int p1), .val (.int p2), .val (.int p3), .val (.int p4), .val (.int p5), .val (.int p6), .val (.int k), .val (.int lo), .val (.int hi), .val (.int k2), .val (.int lo2), .val (.int hi2), .val (.int kd), .val (.ref bx), .val (.ref by_), .unset] [(.int (3 : Int32)), (.int kd)])) _
          refine XS.icmpNo X131.here hx rfl (hb hby at_150) rfl (teq hk3).2 ?_
          show Steps p.tables e below (T131.setTop (mkF m 153 #[.val (.int p1), .val (.int p2), .val (.int p3), .val (.int p4), .val (.int p5), .val (.int p6), .val (.int k), .val (.int lo), .val (.int hi), .val (.int k2), .val (.int lo2), .val (.int hi2), .val (.int kd), .val (.ref bx), .val (.ref by_), .unset] [])) _
          refine XS.aload X131.here hx rfl (hb hby at_153) rfl rfl ?_
          show Steps p.tables e below (T131.setTop (mkF m 155 #[.val (.int p1), .val (.int p2), .val (.int p3), .val (.int p4), .val (.int p5), .val (.int p6), .val (.int k), .val (.int lo), .val (.int hi), .val (.int k2), .val (.int lo2), .val (.int hi2), .val (.int kd), .val (.ref bx), .val (.ref by_), .unset] [(.ref bx)])) _
          refine XS.aload X131.here hx rfl (hb hby at_155) rfl rfl ?_
          show Steps p.tables e below (T131.setTop (mkF m 157 #[.val (.int p1), .val (.int p2), .val (.int p3), .val (.int p4), .val (.int p5), .val (.int p6), .val (.int k), .val (.int lo), .val (.int hi), .val (.int k2), .val (.int lo2), .val (.int hi2), .val (.int kd), .val (.ref bx), .val (.ref by_), .unset] [(.ref bx), (.ref bx)])) _
          refine st159.trans ?_
          exact k_)
        obtain ⟨fs, hr, hrun, hended, hW, hsame⟩ := X159.leave (v := some (.int (nar .boolean (own_eq3 k lo hi k lo hi)))) (fun h => by rw [Bd.returns] at h; cases h)
        refine ⟨_, _, pre160 _ ?_, hrun, hended, _, _, rfl, ?_, ⟨_, rfl⟩, hW, hsame.mono (by decide) (by decide)⟩
        · show Steps p.tables e below (T159.setTop (mkF m 160 #[.val (.int p1), .val (.int p2), .val (.int p3), .val (.int p4), .val (.int p5), .val (.int p6), .val (.int k), .val (.int lo), .val (.int hi), .val (.int k2), .val (.int lo2), .val (.int hi2), .val (.int kd), .val (.ref bx), .val (.ref by_), .unset] [(.int (own_eq3 k lo hi k lo hi))])) _
          exact retN X159 hx (t := .boolean) Bd.returns (by simp) (hb hby at_160) hr
        · show Qrm0 Z p1 p2 p3 p4 p5 p6 ca cc h0 n0 _ T159.heap _
          rw [e159]
          exact ⟨by rw [own_eq3s]; rfl, N159⟩
      · skip
        have pre161 : ∀ t_, Steps p.tables e below (T131.setTop (mkF m 165 #[.val (.int p1), .val (.int p2), .val (.int p3), .val (.int p4), .val (.int p5), .val (.int p6), .val (.int k), .val (.int lo), .val (.int hi), .val (.int k2), .val (.int lo2), .val (.int hi2), .val (.int kd), .val (.ref bx), .val (.ref by_), .unset] [(.int k2), (.int k)])) t_ → Steps p.tables e below (s₁.setTop (entryFrame m #[(.int p1), (.int p2), (.int p3), (.int p4), (.int p5), (.int p6)] maxLocals)) t_ := fun t_ k_ => pre158 _ (by
          show Steps p.tables e below (T131.setTop (mkF m 150 #[.val (.int p1), .val (.int p2), .val (.int p3), .val (.int p4), .val (.int p5), .val (.int p6), .val (.int k), .val (.int lo), .val (.int hi), .val (.int k2), .val (.int lo2), .val (.int hi2), .val (.int kd), .val (.ref bx), .val (.ref by_), .unset] [(.int (3 : Int32)), (.int kd)])) _
          refine XS.icmpYes X131.here hx rfl (pc0 := 150) (pc' := 161) rfl (hb hby at_150) rfl (feq hk3).2 (by decide) (by decide) ?_
          show Steps p.tables e below (T131.setTop (mkF m 161 #[.val (.int p1), .val (.int p2), .val (.int p3), .val (.int p4), .val (.int p5), .val (.int p6), .val (.int k), .val (.int lo), .val (.int hi), .val (.int k2), .val (.int lo2), .val (.int hi2), .val (.int kd), .val (.ref bx), .val (.ref by_), .unset] [])) _
          refine XS.iload X131.here hx rfl (hb hby at_161) rfl ?_
          show Steps p.tables e below (T131.setTop (mkF m 163 #[.val (.int p1), .val (.int p2), .val (.int p3), .val (.int p4), .val (.int p5), .val (.int p6), .val (.int k), .val (.int lo), .val (.int hi), .val (.int k2), .val (.int lo2), .val (.int hi2), .val (.int kd), .val (.ref bx), .val (.ref by_), .unset] [(.int k)])) _
          refine XS.iload X131.here hx rfl (hb hby at_163) rfl ?_
          exact k_)
        obtain ⟨ex, hj_ex, pre162⟩ : ∃ ex : Int32, (ex = own_eq3 k lo hi k2 lo2 hi2) ∧ ∀ t_, Steps p.tables e below (T131.setTop (mkF m 187 #[.val (.int p1), .val (.int p2), .val (.int p3), .val (.int p4), .val (.int p5), .val (.int p6), .val (.int k), .val (.int lo), .val (.int hi), .val (.int k2), .val (.int lo2), .val (.int hi2), .val (.int kd), .val (.ref bx), .val (.ref by_), .unset] [(.int ex)])) t_ → Steps p.tables e below (s₁.setTop (entryFrame m #[(.int p1), (.int p2), (.int p3), (.int p4), (.int p5), (.int p6)] maxLocals)) t_ := by
          by_cases hq0 : k = k2
          · skip
            have pre163 : ∀ t_, Steps p.tables e below (T131.setTop (mkF m 172 #[.val (.int p1), .val (.int p2), .val (.int p3), .val (.int p4), .val (.int p5), .val (.int p6), .val (.int k), .val (.int lo), .val (.int hi), .val (.int k2), .val (.int lo2), .val (.int hi2), .val (.int kd), .val (.ref bx), .val (.ref by_), .unset] [(.int lo2), (.int lo)])) t_ → Steps p.tables e below (s₁.setTop (entryFrame m #[(.int p1), (.int p2), (.int p3), (.int p4), (.int p5), (.int p6)] maxLocals)) t_ := fun t_ k_ => pre161 _ (by
              show Steps p.tables e below (T131.setTop (mkF m 165 #[.val (.int p1), .val (.int p2), .val (.int p3), .val (.int p4), .val (.int p5), .val (.int p6), .val (.int k), .val (.int lo), .val (.int hi), .val (.int k2), .val (.int lo2), .val (.int hi2), .val (.int kd), .val (.ref bx), .val (.ref by_), .unset] [(.int k2), (.int k)])) _
              refine XS.icmpNo X131.here hx rfl (hb hby at_165) rfl (teq hq0).2 ?_
              show Steps p.tables e below (T131.setTop (mkF m 168 #[.val (.int p1), .val (.int p2), .val (.int p3), .val (.int p4), .val (.int p5), .val (.int p6), .val (.int k), .val (.int lo), .val (.int hi), .val (.int k2), .val (.int lo2), .val (.int hi2), .val (.int kd), .val (.ref bx), .val (.ref by_), .unset] [])) _
              refine XS.iload X131.here hx rfl (hb hby at_168) rfl ?_
              show Steps p.tables e below (T131.setTop (mkF m 170 #[.val (.int p1), .val (.int p2), .val (.int p3), .val (.int p4), .val (.int p5), .val (.int p6), .val (.int k), .val (.int lo), .val (.int hi), .val (.int k2), .val (.int lo2), .val (.int hi2), .val (.int kd), .val (.ref bx), .val (.ref by_), .unset] [(.int lo)])) _
              refine XS.iload X131.here hx rfl (hb hby at_170) rfl ?_
              exact k_)
            by_cases hq1 : lo = lo2
            · skip
              have pre164 : ∀ t_, Steps p.tables e below (T131.setTop (mkF m 179 #[.val (.int p1), .val (.int p2), .val (.int p3), .val (.int p4), .val (.int p5), .val (.int p6), .val (.int k), .val (.int lo), .val (.int hi), .val (.int k2), .val (.int lo2), .val (.int hi2), .val (.int kd), .val (.ref bx), .val (.ref by_), .unset] [(.int hi2), (.int hi)])) t_ → Steps p.tables e below (s₁.setTop (entryFrame m #[(.int p1), (.int p2), (.int p3), (.int p4), (.int p5), (.int p6)] maxLocals)) t_ := fun t_ k_ => pre163 _ (by
                show Steps p.tables e below (T131.setTop (mkF m 172 #[.val (.int p1), .val (.int p2), .val (.int p3), .val (.int p4), .val (.int p5), .val (.int p6), .val (.int k), .val (.int lo), .val (.int hi), .val (.int k2), .val (.int lo2), .val (.int hi2), .val (.int kd), .val (.ref bx), .val (.ref by_), .unset] [(.int lo2), (.int lo)])) _
                refine XS.icmpNo X131.here hx rfl (hb hby at_172) rfl (teq hq1).2 ?_
                show Steps p.tables e below (T131.setTop (mkF m 175 #[.val (.int p1), .val (.int p2), .val (.int p3), .val (.int p4), .val (.int p5), .val (.int p6), .val (.int k), .val (.int lo), .val (.int hi), .val (.int k2), .val (.int lo2), .val (.int hi2), .val (.int kd), .val (.ref bx), .val (.ref by_), .unset] [])) _
                refine XS.iload X131.here hx rfl (hb hby at_175) rfl ?_
                show Steps p.tables e below (T131.setTop (mkF m 177 #[.val (.int p1), .val (.int p2), .val (.int p3), .val (.int p4), .val (.int p5), .val (.int p6), .val (.int k), .val (.int lo), .val (.int hi), .val (.int k2), .val (.int lo2), .val (.int hi2), .val (.int kd), .val (.ref bx), .val (.ref by_), .unset] [(.int hi)])) _
                refine XS.iload X131.here hx rfl (hb hby at_177) rfl ?_
                exact k_)
              by_cases hq2 : hi = hi2
              · skip
                have pre165 : ∀ t_, Steps p.tables e below (T131.setTop (mkF m 187 #[.val (.int p1), .val (.int p2), .val (.int p3), .val (.int p4), .val (.int p5), .val (.int p6), .val (.int k), .val (.int lo), .val (.int hi), .val (.int k2), .val (.int lo2), .val (.int hi2), .val (.int kd), .val (.ref bx), .val (.ref by_), .unset] [(.int (1 : Int32))])) t_ → Steps p.tables e below (s₁.setTop (entryFrame m #[(.int p1), (.int p2), (.int p3), (.int p4), (.int p5), (.int p6)] maxLocals)) t_ := fun t_ k_ => pre164 _ (by
                  show Steps p.tables e below (T131.setTop (mkF m 179 #[.val (.int p1), .val (.int p2), .val (.int p3), .val (.int p4), .val (.int p5), .val (.int p6), .val (.int k), .val (.int lo), .val (.int hi), .val (.int k2), .val (.int lo2), .val (.int hi2), .val (.int kd), .val (.ref bx), .val (.ref by_), .unset] [(.int hi2), (.int hi)])) _
                  refine XS.icmpNo X131.here hx rfl (hb hby at_179) rfl (teq hq2).2 ?_
                  show Steps p.tables e below (T131.setTop (mkF m 182 #[.val (.int p1), .val (.int p2), .val (.int p3), .val (.int p4), .val (.int p5), .val (.int p6), .val (.int k), .val (.int lo), .val (.int hi), .val (.int k2), .val (.int lo2), .val (.int hi2), .val (.int kd), .val (.ref bx), .val (.ref by_), .unset] [])) _
                  refine XS.iconst X131.here hx rfl (hb hby at_182) ?_
                  show Steps p.tables e below (T131.setTop (mkF m 183 #[.val (.int p1), .val (.int p2), .val (.int p3), .val (.int p4), .val (.int p5), .val (.int p6), .val (.int k), .val (.int lo), .val (.int hi), .val (.int k2), .val (.int lo2), .val (.int hi2), .val (.int kd), .val (.ref bx), .val (.ref by_), .unset] [(.int (1 : Int32))])) _
                  refine XS.goto X131.here hx rfl (pc0 := 183) (pc' := 187) rfl (hb hby at_183) (by decide) (by decide) ?_
                  exact k_)
                exact ⟨(1 : Int32), (by rw [own_eq3, if_pos hq0, if_pos hq1, if_pos hq2]), pre165⟩
              · skip
                have pre166 : ∀ t_, Steps p.tables e below (T131.setTop (mkF m 187 #[.val (.int p1), .val (.int p2), .val (.int p3), .val (.int p4), .val (.int p5), .val (.int p6), .val (.int k), .val (.int lo), .val (.int hi), .val (.int k2), .val (.int lo2), .val (.int hi2), .val (.int kd), .val (.ref bx), .val (.ref by_), .unset] [(.int (0 : Int32))])) t_ → Steps p.tables e below (s₁.setTop (entryFrame m #[(.int p1), (.int p2), (.int p3), (.int p4), (.int p5), (.int p6)] maxLocals)) t_ := fun t_ k_ => pre164 _ (by
                  show Steps p.tables e below (T131.setTop (mkF m 179 #[.val (.int p1), .val (.int p2), .val (.int p3), .val (.int p4), .val (.int p5), .val (.int p6), .val (.int k), .val (.int lo), .val (.int hi), .val (.int k2), .val (.int lo2), .val (.int hi2), .val (.int kd), .val (.ref bx), .val (.ref by_), .unset] [(.int hi2), (.int hi)])) _
                  refine XS.icmpYes X131.here hx rfl (pc0 := 179) (pc' := 186) rfl (hb hby at_179) rfl (feq hq2).2 (by decide) (by decide) ?_
                  show Steps p.tables e below (T131.setTop (mkF m 186 #[.val (.int p1), .val (.int p2), .val (.int p3), .val (.int p4), .val (.int p5), .val (.int p6), .val (.int k), .val (.int lo), .val (.int hi), .val (.int k2), .val (.int lo2), .val (.int hi2), .val (.int kd), .val (.ref bx), .val (.ref by_), .unset] [])) _
                  refine XS.iconst X131.here hx rfl (hb hby at_186) ?_
                  exact k_)
                exact ⟨(0 : Int32), (by rw [own_eq3, if_pos hq0, if_pos hq1, if_neg hq2]), pre166⟩
            · skip
              have pre167 : ∀ t_, Steps p.tables e below (T131.setTop (mkF m 187 #[.val (.int p1), .val (.int p2), .val (.int p3), .val (.int p4), .val (.int p5), .val (.int p6), .val (.int k), .val (.int lo), .val (.int hi), .val (.int k2), .val (.int lo2), .val (.int hi2), .val (.int kd), .val (.ref bx), .val (.ref by_), .unset] [(.int (0 : Int32))])) t_ → Steps p.tables e below (s₁.setTop (entryFrame m #[(.int p1), (.int p2), (.int p3), (.int p4), (.int p5), (.int p6)] maxLocals)) t_ := fun t_ k_ => pre163 _ (by
                show Steps p.tables e below (T131.setTop (mkF m 172 #[.val (.int p1), .val (.int p2), .val (.int p3), .val (.int p4), .val (.int p5), .val (.int p6), .val (.int k), .val (.int lo), .val (.int hi), .val (.int k2), .val (.int lo2), .val (.int hi2), .val (.int kd), .val (.ref bx), .val (.ref by_), .unset] [(.int lo2), (.int lo)])) _
                refine XS.icmpYes X131.here hx rfl (pc0 := 172) (pc' := 186) rfl (hb hby at_172) rfl (feq hq1).2 (by decide) (by decide) ?_
                show Steps p.tables e below (T131.setTop (mkF m 186 #[.val (.int p1), .val (.int p2), .val (.int p3), .val (.int p4), .val (.int p5), .val (.int p6), .val (.int k), .val (.int lo), .val (.int hi), .val (.int k2), .val (.int lo2), .val (.int hi2), .val (.int kd), .val (.ref bx), .val (.ref by_), .unset] [])) _
                refine XS.iconst X131.here hx rfl (hb hby at_186) ?_
                exact k_)
              exact ⟨(0 : Int32), (by rw [own_eq3, if_pos hq0, if_neg hq1]), pre167⟩
          · skip
            have pre168 : ∀ t_, Steps p.tables e below (T131.setTop (mkF m 187 #[.val (.int p1), .val (.int p2), .val (.int p3), .val (.int p4), .val (.int p5), .val (.int p6), .val (.int k), .val (.int lo), .val (.int hi), .val (.int k2), .val (.int lo2), .val (.int hi2), .val (.int kd), .val (.ref bx), .val (.ref by_), .unset] [(.int (0 : Int32))])) t_ → Steps p.tables e below (s₁.setTop (entryFrame m #[(.int p1), (.int p2), (.int p3), (.int p4), (.int p5), (.int p6)] maxLocals)) t_ := fun t_ k_ => pre161 _ (by
              show Steps p.tables e below (T131.setTop (mkF m 165 #[.val (.int p1), .val (.int p2), .val (.int p3), .val (.int p4), .val (.int p5), .val (.int p6), .val (.int k), .val (.int lo), .val (.int hi), .val (.int k2), .val (.int lo2), .val (.int hi2), .val (.int kd), .val (.ref bx), .val (.ref by_), .unset] [(.int k2), (.int k)])) _
              refine XS.icmpYes X131.here hx rfl (pc0 := 165) (pc' := 186) rfl (hb hby at_165) rfl (feq hq0).2 (by decide) (by decide) ?_
              show Steps p.tables e below (T131.setTop (mkF m 186 #[.val (.int p1), .val (.int p2), .val (.int p3), .val (.int p4), .val (.int p5), .val (.int p6), .val (.int k), .val (.int lo), .val (.int hi), .val (.int k2), .val (.int lo2), .val (.int hi2), .val (.int kd), .val (.ref bx), .val (.ref by_), .unset] [])) _
              refine XS.iconst X131.here hx rfl (hb hby at_186) ?_
              exact k_)
            exact ⟨(0 : Int32), (by rw [own_eq3, if_neg hq0]), pre168⟩
        obtain ⟨cq169, kq169, q169a, q169b, q169c⟩ := isOf hZ rfl E_bx_133
        obtain ⟨_, _, ⟨T169, L169, k169, n169⟩, -, X169, ⟨Lc169, hQ169, l169, y169, z169⟩, st169⟩ := X131.virtualBack hx (y := (⟨"com/example/termite/termite/protocol/ApiVersionsResponse$VersionRange", "equals", "(Ljava/lang/Object;)Z"⟩ : MethodName)) (z := (⟨"com/example/termite/termite/protocol/ApiVersionsResponse$VersionRange", "equals", "(Ljava/lang/Object;)Z"⟩ : MethodName)) hown (mvT hZ (hw _ (List.mem_of_getElem? (i := 20) rfl))) (mvT hZ (hw _ (List.mem_of_getElem? (i := 21) rfl))) (notFace_of_selects (args := #[]) (mvT hZ (hw _ (List.mem_of_getElem? (i := 23) rfl)))) (mvT hZ (hw _ (List.mem_of_getElem? (i := 23) rfl))) (mvT hZ (hw _ (List.mem_of_getElem? (i := 22) rfl))) (by decide) (backOf (W := 0) (rmE2 l Z a0 hw [] bx by_ k lo hi k2 lo2 hi2 T131.heap n0 Z138 E131 F0_bx_134 F1_bx_135 F2_bx_136 F0131 F1131 F2131) hZ (hw _ (List.mem_of_getElem? (i := 24) rfl)) (hw _ (List.mem_of_getElem? (i := 2) rfl)) (by decide) (by decide)) q169a q169c (g := (mkF m 193 #[.val (.int p1), .val (.int p2), .val (.int p3), .val (.int p4), .val (.int p5), .val (.int p6), .val (.int k), .val (.int lo), .val (.int hi), .val (.int k2), .val (.int lo2), .val (.int hi2), .val (.int kd), .val (.ref bx), .val (.ref by_), .val (.int ex)] [(.ref by_), (.ref bx)])) rfl (by rw [hml]; rfl) (Steps.refl _) (argsL := [(.ref by_)]) (rest := []) (lenOf pd_3 rfl) rfl (by show 2 * 0 + _ ≤ _; exact Nat.le_of_eq rfl) (hb hby at_193) (fun _ _ => ⟨rfl, rfl, (by decide : 2 + 0 ≤ _), (by decide : 6 + 0 ≤ _)⟩)
        dsimp only [Pt.U, Pt.locs, Pt.cells, Pt.slots] at X169 l169 y169 z169 st169 hQ169
        subst l169 y169 z169
        obtain ⟨rfl, N169q, e169⟩ := hQ169
        have N169 := Fr.app N131 N169q
        obtain ⟨cq170, kq170, q170a, q170b, q170c⟩ := isOf hZ e169 E131
        obtain ⟨_, _, ⟨T170, L170, k170, n170⟩, -, X170, ⟨Lc170, hQ170, l170, y170, z170⟩, st170⟩ := X169.virtualBack hx (y := (⟨"com/example/termite/termite/protocol/ApiVersionsResponse$VersionRange", "equals", "(Ljava/lang/Object;)Z"⟩ : MethodName)) (z := (⟨"com/example/termite/termite/protocol/ApiVersionsResponse$VersionRange", "equals", "(Ljava/lang/Object;)Z"⟩ : MethodName)) hown (mvT hZ (hw _ (List.mem_of_getElem? (i := 20) rfl))) (mvT hZ (hw _ (List.mem_of_getElem? (i := 21) rfl))) (notFace_of_selects (args := #[]) (mvT hZ (hw _ (List.mem_of_getElem? (i := 23) rfl)))) (mvT hZ (hw _ (List.mem_of_getElem? (i := 23) rfl))) (mvT hZ (hw _ (List.mem_of_getElem? (i := 22) rfl))) (by decide) (backOf (W := 0) (rmE2 l Z a0 hw [] by_ bx k2 lo2 hi2 k lo hi T131.heap n0 Z138 E_bx_133 F0131 F1131 F2131 F0_bx_134 F1_bx_135 F2_bx_136) hZ (hw _ (List.mem_of_getElem? (i := 24) rfl)) (hw _ (List.mem_of_getElem? (i := 2) rfl)) (by decide) (by decide)) q170a q170c (g := (mkF m 205 #[.val (.int p1), .val (.int p2), .val (.int p3), .val (.int p4), .val (.int p5), .val (.int p6), .val (.int k), .val (.int lo), .val (.int hi), .val (.int k2), .val (.int lo2), .val (.int hi2), .val (.int kd), .val (.ref bx), .val (.ref by_), .val (.int ex)] [(.ref bx), (.ref by_)])) rfl (by rw [hml]; rfl) (Steps.refl _) (argsL := [(.ref bx)]) (rest := []) (lenOf pd_3 rfl) rfl (by show 2 * 0 + _ ≤ _; exact Nat.le_of_eq rfl) (hb hby at_205) (fun _ _ => ⟨rfl, e169, (by decide : 2 + 0 ≤ _), (by decide : 6 + 0 ≤ _)⟩)
        dsimp only [Pt.U, Pt.locs, Pt.cells, Pt.slots] at X170 l170 y170 z170 st170 hQ170
        subst l170 y170 z170
        obtain ⟨rfl, N170q, e170⟩ := hQ170
        have N170 := Fr.app N169 N170q
        have pre171 : ∀ t_, Steps p.tables e below (T170.setTop (mkF m 218 #[.val (.int p1), .val (.int p2), .val (.int p3), .val (.int p4), .val (.int p5), .val (.int p6), .val (.int k), .val (.int lo), .val (.int hi), .val (.int k2), .val (.int lo2), .val (.int hi2), .val (.int kd), .val (.ref bx), .val (.ref by_), .val (.int ex)] [(.int (1 : Int32))])) t_ → Steps p.tables e below (s₁.setTop (entryFrame m #[(.int p1), (.int p2), (.int p3), (.int p4), (.int p5), (.int p6)] maxLocals)) t_ := fun t_ k_ => pre162 _ (by
          show Steps p.tables e below (T131.setTop (mkF m 187 #[.val (.int p1), .val (.int p2), .val (.int p3), .val (.int p4), .val (.int p5), .val (.int p6), .val (.int k), .val (.int lo), .val (.int hi), .val (.int k2), .val (.int lo2), .val (.int hi2), .val (.int kd), .val (.ref bx), .val (.ref by_), .unset] [(.int ex)])) _
          refine XS.istore X131.here hx rfl (hb hby at_187) rfl (l' := #[.val (.int p1), .val (.int p2), .val (.int p3), .val (.int p4), .val (.int p5), .val (.int p6), .val (.int k), .val (.int lo), .val (.int hi), .val (.int k2), .val (.int lo2), .val (.int hi2), .val (.int kd), .val (.ref bx), .val (.ref by_), .val (.int ex)]) rfl ?_
          show Steps p.tables e below (T131.setTop (mkF m 189 #[.val (.int p1), .val (.int p2), .val (.int p3), .val (.int p4), .val (.int p5), .val (.int p6), .val (.int k), .val (.int lo), .val (.int hi), .val (.int k2), .val (.int lo2), .val (.int hi2), .val (.int kd), .val (.ref bx), .val (.ref by_), .val (.int ex)] [])) _
          refine XS.aload X131.here hx rfl (hb hby at_189) rfl rfl ?_
          show Steps p.tables e below (T131.setTop (mkF m 191 #[.val (.int p1), .val (.int p2), .val (.int p3), .val (.int p4), .val (.int p5), .val (.int p6), .val (.int k), .val (.int lo), .val (.int hi), .val (.int k2), .val (.int lo2), .val (.int hi2), .val (.int kd), .val (.ref bx), .val (.ref by_), .val (.int ex)] [(.ref bx)])) _
          refine XS.aload X131.here hx rfl (hb hby at_191) rfl rfl ?_
          show Steps p.tables e below (T131.setTop (mkF m 193 #[.val (.int p1), .val (.int p2), .val (.int p3), .val (.int p4), .val (.int p5), .val (.int p6), .val (.int k), .val (.int lo), .val (.int hi), .val (.int k2), .val (.int lo2), .val (.int hi2), .val (.int kd), .val (.ref bx), .val (.ref by_), .val (.int ex)] [(.ref by_), (.ref bx)])) _
          refine st169.trans ?_
          show Steps p.tables e below (T169.setTop (mkF m 196 #[.val (.int p1), .val (.int p2), .val (.int p3), .val (.int p4), .val (.int p5), .val (.int p6), .val (.int k), .val (.int lo), .val (.int hi), .val (.int k2), .val (.int lo2), .val (.int hi2), .val (.int kd), .val (.ref bx), .val (.ref by_), .val (.int ex)] [(.int (own_eq3 k lo hi k2 lo2 hi2))])) _
          refine XS.iload X169.here hx rfl (hb hby at_196) rfl ?_
          show Steps p.tables e below (T169.setTop (mkF m 198 #[.val (.int p1), .val (.int p2), .val (.int p3), .val (.int p4), .val (.int p5), .val (.int p6), .val (.int k), .val (.int lo), .val (.int hi), .val (.int k2), .val (.int lo2), .val (.int hi2), .val (.int kd), .val (.ref bx), .val (.ref by_), .val (.int ex)] [(.int ex), (.int (own_eq3 k lo hi k2 lo2 hi2))])) _
          refine XS.icmpNo X169.here hx rfl (hb hby at_198) rfl (teq hj_ex.symm).2 ?_
          show Steps p.tables e below (T169.setTop (mkF m 201 #[.val (.int p1), .val (.int p2), .val (.int p3), .val (.int p4), .val (.int p5), .val (.int p6), .val (.int k), .val (.int lo), .val (.int hi), .val (.int k2), .val (.int lo2), .val (.int hi2), .val (.int kd), .val (.ref bx), .val (.ref by_), .val (.int ex)] [])) _
          refine XS.aload X169.here hx rfl (hb hby at_201) rfl rfl ?_
          show Steps p.tables e below (T169.setTop (mkF m 203 #[.val (.int p1), .val (.int p2), .val (.int p3), .val (.int p4), .val (.int p5), .val (.int p6), .val (.int k), .val (.int lo), .val (.int hi), .val (.int k2), .val (.int lo2), .val (.int hi2), .val (.int kd), .val (.ref bx), .val (.ref by_), .val (.int ex)] [(.ref by_)])) _
          refine XS.aload X169.here hx rfl (hb hby at_203) rfl rfl ?_
          show Steps p.tables e below (T169.setTop (mkF m 205 #[.val (.int p1), .val (.int p2), .val (.int p3), .val (.int p4), .val (.int p5), .val (.int p6), .val (.int k), .val (.int lo), .val (.int hi), .val (.int k2), .val (.int lo2), .val (.int hi2), .val (.int kd), .val (.ref bx), .val (.ref by_), .val (.int ex)] [(.ref bx), (.ref by_)])) _
          refine st170.trans ?_
          show Steps p.tables e below (T170.setTop (mkF m 208 #[.val (.int p1), .val (.int p2), .val (.int p3), .val (.int p4), .val (.int p5), .val (.int p6), .val (.int k), .val (.int lo), .val (.int hi), .val (.int k2), .val (.int lo2), .val (.int hi2), .val (.int kd), .val (.ref bx), .val (.ref by_), .val (.int ex)] [(.int (own_eq3 k2 lo2 hi2 k lo hi))])) _
          refine XS.iload X170.here hx rfl (hb hby at_208) rfl ?_
          show Steps p.tables e below (T170.setTop (mkF m 210 #[.val (.int p1), .val (.int p2), .val (.int p3), .val (.int p4), .val (.int p5), .val (.int p6), .val (.int k), .val (.int lo), .val (.int hi), .val (.int k2), .val (.int lo2), .val (.int hi2), .val (.int kd), .val (.ref bx), .val (.ref by_), .val (.int ex)] [(.int ex), (.int (own_eq3 k2 lo2 hi2 k lo hi))])) _
          refine XS.icmpNo X170.here hx rfl (hb hby at_210) rfl (teq ((own_eq3c k lo hi k2 lo2 hi2).trans hj_ex.symm)).2 ?_
          show Steps p.tables e below (T170.setTop (mkF m 213 #[.val (.int p1), .val (.int p2), .val (.int p3), .val (.int p4), .val (.int p5), .val (.int p6), .val (.int k), .val (.int lo), .val (.int hi), .val (.int k2), .val (.int lo2), .val (.int hi2), .val (.int kd), .val (.ref bx), .val (.ref by_), .val (.int ex)] [])) _
          refine XS.iconst X170.here hx rfl (hb hby at_213) ?_
          show Steps p.tables e below (T170.setTop (mkF m 214 #[.val (.int p1), .val (.int p2), .val (.int p3), .val (.int p4), .val (.int p5), .val (.int p6), .val (.int k), .val (.int lo), .val (.int hi), .val (.int k2), .val (.int lo2), .val (.int hi2), .val (.int kd), .val (.ref bx), .val (.ref by_), .val (.int ex)] [(.int (1 : Int32))])) _
          refine XS.goto X170.here hx rfl (pc0 := 214) (pc' := 218) rfl (hb hby at_214) (by decide) (by decide) ?_
          exact k_)
        obtain ⟨fs, hr, hrun, hended, hW, hsame⟩ := X170.leave (v := some (.int (1 : Int32))) (fun h => by rw [Bd.returns] at h; cases h)
        refine ⟨_, _, pre171 _ ?_, hrun, hended, _, _, rfl, ?_, ⟨_, rfl⟩, hW, hsame.mono (by decide) (by decide)⟩
        · show Steps p.tables e below (T170.setTop (mkF m 218 #[.val (.int p1), .val (.int p2), .val (.int p3), .val (.int p4), .val (.int p5), .val (.int p6), .val (.int k), .val (.int lo), .val (.int hi), .val (.int k2), .val (.int lo2), .val (.int hi2), .val (.int kd), .val (.ref bx), .val (.ref by_), .val (.int ex)] [(.int (1 : Int32))])) _
          exact retN X170 hx (t := .boolean) Bd.returns (by simp) (hb hby at_218) hr
        · show Qrm0 Z p1 p2 p3 p4 p5 p6 ca cc h0 n0 _ T170.heap _
          rw [e170]
          exact ⟨rfl, N170⟩
set_option maxRecDepth 65536 in
set_option maxHeartbeats 40000000 in
theorem comes_1 {Post : Tables → Env → Array Value → State → Outcome → State → Prop} (hpost : ∀ tb e args s v u, (limb_1_1.after args s (.returned v) u = true ∧ limb_1_2.after args s (.returned v) u = true ∧ True) → FrameEnd s (.returned v) u (Jvm.fieldLocs frame_1_writes args s ++ Jvm.arrayLocs frame_1_arrays args s ++ Jvm.staticLocs frame_1_statics s) 16 128 → Post tb e args s (.returned v) u) :
    ArmFor flags0 classFile x code maxLocals ret World_1 tables_1 room_1 Calls_1 rest_1 Pre_1 Post := by
  intro l hfl _ _ p e ha hc hk s m args below hf hA hF happ hP
  obtain ⟨hcalls, hrest, hpre⟩ := hP
  obtain ⟨-, -, -, hnamed, -, -, -, hat⟩ := (Spec.applies_iff hf).mp happ
  obtain ⟨hg, hn⟩ := and_e (Cond.before_iff.mp (show (Jvm.Cond.and given_1 narrow_1).before args s = true from hpre))
  obtain ⟨gg1, gg2⟩ := and_e hg
  obtain ⟨gg3, gg4⟩ := and_e gg2
  obtain ⟨gg5, gg6⟩ := and_e gg4
  obtain ⟨gg7, gg8⟩ := and_e gg6
  obtain ⟨gg9, gg10⟩ := and_e gg8
  obtain ⟨gg11, gg12⟩ := and_e gg10
  obtain ⟨w0, w1, w2, w3, w4, w5, rfl⟩ : ∃ w0 w1 w2 w3 w4 w5 : Value, args = #[w0, w1, w2, w3, w4, w5] := by
    have hs : args.size = 6 := by simpa [Cond.value, given_1] using gg1
    obtain ⟨L⟩ := args
    match L, hs with
    | [w0, w1, w2, w3, w4, w5], _ => exact ⟨w0, w1, w2, w3, w4, w5, rfl⟩
  have hw := fun d (hd : d ∈ tables_1) => atoms_spec (ws := Jvm.Cond.code x code maxLocals ret :: tables_1) hat d (List.mem_cons_of_mem _ hd)
  have hfit : Fit s := fun {y c} hc i hi => by
    obtain ⟨ha, rfl⟩ := Array.getElem?_eq_some_iff.mp hc
    have q := List.all_eq_true.mp ((Array.all_eq_true_iff_forall_mem.mp hF) _ (Array.getElem_mem ha)) i (List.mem_range.mpr hi)
    simpa [Array.getElem?_eq_getElem hi] using q
  obtain ⟨i0, ei0⟩ := is_v gg3
  obtain rfl : w0 = (.int i0) := Option.some.inj ei0
  obtain ⟨i1, ei1⟩ := is_v gg5
  obtain rfl : w1 = (.int i1) := Option.some.inj ei1
  obtain ⟨i2, ei2⟩ := is_v gg7
  obtain rfl : w2 = (.int i2) := Option.some.inj ei2
  obtain ⟨i3, ei3⟩ := is_v gg9
  obtain rfl : w3 = (.int i3) := Option.some.inj ei3
  obtain ⟨i4, ei4⟩ := is_v gg11
  obtain rfl : w4 = (.int i4) := Option.some.inj ei4
  obtain ⟨i5, ei5⟩ := is_v gg12
  obtain rfl : w5 = (.int i5) := Option.some.inj ei5
  obtain ⟨hsets, hown0⟩ := atoms_of _ (rest_1_c_eq ▸ (show rest_1_c.before _ s = true from hrest))
  obtain ⟨S_high, ca, cc, S_cache, B_c⟩ := own_cache (hsets _ (List.mem_of_getElem? (i := 1) rfl)) (hsets _ (List.mem_of_getElem? (i := 2) rfl)) (hsets _ (List.mem_of_getElem? (i := 3) rfl)) (hsets _ (List.mem_of_getElem? (i := 4) rfl)) (hsets _ (List.mem_of_getElem? (i := 6) rfl)) (hsets _ (List.mem_of_getElem? (i := 7) rfl)) (hw _ (List.mem_of_getElem? (i := 50) rfl))
  obtain ⟨n, o, h1, h2, h3, _, L, rfl, ⟨rfl, N⟩, hq⟩ := rm0 l s _ hw tables_1 i0 i1 i2 i3 i4 i5 ca cc s.heap s.heap.size (Nat.le_refl _) (Old.start s) S_high S_cache B_c p e ha hc hk s m _ below hf ((Spec.applies_iff_loose hf).mp happ).1 ⟨rfl, State.Warmed39.refl s, rfl⟩ trivial
  refine ⟨n, _, h1, h2, h3, hpost _ _ _ _ _ _ ⟨Cond.after_iff.mpr rfl, Cond.after_iff.mpr (eq_i res_at (Term.int_eval (1)) rfl), trivial⟩ ⟨hq.1, hq.2.1, (hq.2.2.sift fun y hy => Or.inr (N y hy)).mono (by decide) (by decide)⟩⟩
theorem main_1_1 : Claimed_1_1 := comes_1 fun _ _ _ _ _ _ h hF => ⟨h.1, hF⟩
theorem main_1_2 : Claimed_1_2 := comes_1 fun _ _ _ _ _ _ h hF => ⟨h.2.1, hF⟩
end Jvm.Pilot.@@N@@
namespace Jvm.Pilot.@@N@@
open Jvm Jvm.ClassFile Sem Op Lib Jvm.Free Jvm.Stand Jvm.Pilot.@@N@@.Jvm.D
/-! MADE BY PROGRAM (witnessworld.py) out of the Statement's table words and the real class files: 17 classes; the members and pool entries that the words name. The judged class is class 1, her method 1. -/
namespace start1
open Jvm.ClassFile
def u (s : String) : CpInfo := .utf8 (stringToUtf16 s)
/-- a pool by its gaps: so many unusable entries, then the entry; so many at the end -/
def gap : Nat → List CpInfo → List CpInfo
  | 0, r => r
  | n + 1, r => .unusable :: gap n r
def poolList (es : List (Nat × CpInfo)) (last : Nat) : List CpInfo := es.foldr (fun e r => gap e.1 (e.2 :: r)) (gap last [])
def pool (es : List (Nat × CpInfo)) (last : Nat) : Array CpInfo := ⟨poolList es last⟩
def fileOf (pool : Array CpInfo) (this : Nat) (attrs : Array Attribute := #[]) (ms : Array MethodInfo := #[]) (fl : Nat := 33) (sup : Nat := 0) (ifs : Array Nat := #[]) (fds : Array FieldInfo := #[]) : ClassFile where
  minorVersion := 0
  majorVersion := 65
  constantPool := pool
  accessFlags := fl
  thisClass := this
  superClass := sup
  interfaces := ifs
  fields := fds
  methods := ms
  attributes := attrs
def plain (name : String) (sup : Option ClassId) : Class where
  name := name
  kind := .ordinary
  loader := none
  accessFlags := 33
  super := sup
  interfaces := #[]
  cf := none
  fields := #[]
  methods := #[]
  instanceTypes := #[]
  staticTypes := #[]
  resolved := #[]
  callSites := []
  init := .initialized
  statics := none
  mirror := none

def pool0 : Array CpInfo := pool [(5, u "<init>"), (0, u "()V"), (1, .class_ 10), (1, u "java/lang/Object")] 113

def k0c0 : Code := { maxStack := 0, maxLocals := 1, code := object_method_1_code, exceptionTable := #[], attributes := #[] }
def k0m0 : Method := { name := "<init>", desc := "()V", sig := { parameters := [], returnType := none }, accessFlags := 1, code := some k0c0 }
/-- java/lang/Object -/
def k0 : Class := { plain "java/lang/Object" none with
  accessFlags := 33
  interfaces := #[]
  cf := some (fileOf pool0 8 #[] #[{ accessFlags := 1, nameIndex := 5, descriptorIndex := 6, attributes := #[] }] 33 0 #[] #[])
  fields := #[]
  methods := #[k0m0]
  instanceTypes := #[]
  staticTypes := #[]
  resolved := Array.replicate 124 none
  statics := none }

def pool1 : Array CpInfo := pool [(2, .class_ 4), (1, u "java/lang/Object"), (0, u "<init>"), (0, u "()V"), (0, .class_ 8), (0, u "com/example/termite/termite/protocol/ApiVersionsResponse$VersionRange"), (0, .methodref 7 10), (0, .nameAndType 5 11), (0, u "(SSS)V"), (0, .methodref 7 13), (0, .nameAndType 14 15), (0, u "equals"), (0, u "(Ljava/lang/Object;)Z"), (0, .methodref 17 18), (0, .class_ 19), (0, .nameAndType 20 21), (0, u "java/lang/Integer"), (0, u "valueOf"), (0, u "(I)Ljava/lang/Integer;"), (0, .class_ 23), (0, u "com/example/termite/termite/protocol/VersionRangeEqualsPinLaw"), (2, u "law"), (0, u "(IIIIII)Z")] 7

def k1m0 : Method := { name := "<init>", desc := "()V", sig := { parameters := [], returnType := none }, accessFlags := 1, code := none }
def k1c1 : Code := { maxStack := 5, maxLocals := 16, code := code, exceptionTable := #[], attributes := #[] }
def k1m1 : Method := { name := "law", desc := "(IIIIII)Z", sig := { parameters := [.int, .int, .int, .int, .int, .int], returnType := some .boolean }, accessFlags := 9, code := some k1c1 }
/-- com/example/termite/termite/protocol/VersionRangeEqualsPinLaw -/
def k1 : Class := { plain "com/example/termite/termite/protocol/VersionRangeEqualsPinLaw" (some 0) with
  accessFlags := 49
  interfaces := #[]
  cf := some (fileOf pool1 22 #[] #[{ accessFlags := 1, nameIndex := 5, descriptorIndex := 6, attributes := #[] }, { accessFlags := 9, nameIndex := 26, descriptorIndex := 27, attributes := #[] }] 49 2 #[] #[])
  fields := #[]
  methods := #[k1m0, k1m1]
  instanceTypes := #[]
  staticTypes := #[]
  resolved := Array.replicate 35 none
  statics := none }

def pool2 : Array CpInfo := pool [(1, .class_ 2), (0, u "java/lang/Cloneable"), (0, .class_ 4), (0, u "java/lang/Object")] 2

/-- java/lang/Cloneable -/
def k2 : Class := { plain "java/lang/Cloneable" (some 0) with
  accessFlags := 1537
  interfaces := #[]
  cf := some (fileOf pool2 1 #[] #[] 1537 3 #[] #[])
  fields := #[]
  methods := #[]
  instanceTypes := #[]
  staticTypes := #[]
  resolved := Array.replicate 7 none
  statics := none }

def pool3 : Array CpInfo := pool [(1, .methodref 2 3), (0, .class_ 4), (0, .nameAndType 5 6), (0, u "java/lang/Object"), (0, u "<init>"), (0, u "()V"), (4, .class_ 12), (0, u "com/example/termite/termite/protocol/Structure"), (9, .class_ 23), (0, u "java/lang/Cloneable"), (10, .class_ 35), (0, u "com/example/termite/termite/protocol/Structure$Fields")] 2

def k3c0 : Code := { maxStack := 1, maxLocals := 1, code := prog_211_method_1_code, exceptionTable := #[], attributes := #[] }
def k3m0 : Method := { name := "<init>", desc := "()V", sig := { parameters := [], returnType := none }, accessFlags := 1, code := some k3c0 }
/-- com/example/termite/termite/protocol/Structure -/
def k3 : Class := { plain "com/example/termite/termite/protocol/Structure" (some 0) with
  accessFlags := 1057
  interfaces := #[2]
  cf := some (fileOf pool3 11 #[.nestMembers #[34]] #[{ accessFlags := 1, nameIndex := 5, descriptorIndex := 6, attributes := #[] }] 1057 2 #[22] #[])
  fields := #[]
  methods := #[k3m0]
  instanceTypes := #[]
  staticTypes := #[]
  resolved := Array.replicate 38 none
  statics := none }

def pool4 : Array CpInfo := pool [(1, .methodref 2 3), (0, .class_ 4), (0, .nameAndType 5 6), (0, u "com/example/termite/termite/protocol/Structure"), (0, u "<init>"), (0, u "()V"), (0, .fieldref 8 9), (0, .class_ 10), (0, .nameAndType 11 12), (0, u "com/example/termite/termite/protocol/ApiVersionsResponse$VersionRange"), (0, u "apiKey"), (0, u "S"), (0, .fieldref 8 14), (0, .nameAndType 15 12), (0, u "minVersion"), (0, .fieldref 8 17), (0, .nameAndType 18 12), (0, u "maxVersion"), (27, u "BLANK"), (0, u "Lcom/example/termite/termite/protocol/ApiVersionsResponse$VersionRange;"), (2, u "(SSS)V"), (3, u "equals"), (0, u "(Ljava/lang/Object;)Z"), (9, .class_ 66), (0, u "com/example/termite/termite/protocol/ApiVersionsResponse")] 17

def k4m0 : Method := { name := "<init>", desc := "()V", sig := { parameters := [], returnType := none }, accessFlags := 2, code := none }
def k4c1 : Code := { maxStack := 2, maxLocals := 4, code := prog_83_method_2_code, exceptionTable := #[], attributes := #[] }
def k4m1 : Method := { name := "<init>", desc := "(SSS)V", sig := { parameters := [.short, .short, .short], returnType := none }, accessFlags := 1, code := some k4c1 }
def k4c2 : Code := { maxStack := 2, maxLocals := 3, code := prog_83_method_7_code, exceptionTable := #[], attributes := #[] }
def k4m2 : Method := { name := "equals", desc := "(Ljava/lang/Object;)Z", sig := { parameters := [(.object "java/lang/Object")], returnType := some .boolean }, accessFlags := 1, code := some k4c2 }
/-- com/example/termite/termite/protocol/ApiVersionsResponse$VersionRange -/
def k4 : Class := { plain "com/example/termite/termite/protocol/ApiVersionsResponse$VersionRange" (some 3) with
  accessFlags := 33
  interfaces := #[]
  cf := some (fileOf pool4 8 #[.nestHost 65] #[{ accessFlags := 2, nameIndex := 5, descriptorIndex := 6, attributes := #[] }, { accessFlags := 1, nameIndex := 5, descriptorIndex := 50, attributes := #[] }, { accessFlags := 1, nameIndex := 54, descriptorIndex := 55, attributes := #[] }] 33 2 #[] #[{ accessFlags := 24, nameIndex := 46, descriptorIndex := 47, attributes := #[] }, { accessFlags := 2, nameIndex := 11, descriptorIndex := 12, attributes := #[] }, { accessFlags := 2, nameIndex := 15, descriptorIndex := 12, attributes := #[] }, { accessFlags := 2, nameIndex := 18, descriptorIndex := 12, attributes := #[] }])
  fields := #[{ name := "BLANK", type := (.object "com/example/termite/termite/protocol/ApiVersionsResponse$VersionRange"), accessFlags := 24, slot := 0, constantValue := 0 }, { name := "apiKey", type := .short, accessFlags := 2, slot := 0, constantValue := 0 }, { name := "minVersion", type := .short, accessFlags := 2, slot := 1, constantValue := 0 }, { name := "maxVersion", type := .short, accessFlags := 2, slot := 2, constantValue := 0 }]
  methods := #[k4m0, k4m1, k4m2]
  instanceTypes := #[.short, .short, .short]
  staticTypes := #[(.object "com/example/termite/termite/protocol/ApiVersionsResponse$VersionRange")]
  resolved := Array.replicate 84 none
  statics := none }

def pool5 : Array CpInfo := pool [(1, .class_ 2), (0, u "java/io/Serializable"), (0, .class_ 4), (0, u "java/lang/Object")] 2

/-- java/io/Serializable -/
def k5 : Class := { plain "java/io/Serializable" (some 0) with
  accessFlags := 1537
  interfaces := #[]
  cf := some (fileOf pool5 1 #[] #[] 1537 3 #[] #[])
  fields := #[]
  methods := #[]
  instanceTypes := #[]
  staticTypes := #[]
  resolved := Array.replicate 7 none
  statics := none }

def pool6 : Array CpInfo := pool [(1, .methodref 2 3), (0, .class_ 4), (0, .nameAndType 5 6), (0, u "java/lang/Object"), (0, u "<init>"), (0, u "()V"), (1, .class_ 10), (1, u "java/lang/Number"), (2, .class_ 14), (0, u "java/io/Serializable"), (0, u "serialVersionUID"), (0, u "J")] 20

def k6c0 : Code := { maxStack := 1, maxLocals := 1, code := jdk_18_method_1_code, exceptionTable := #[], attributes := #[] }
def k6m0 : Method := { name := "<init>", desc := "()V", sig := { parameters := [], returnType := none }, accessFlags := 1, code := some k6c0 }
/-- java/lang/Number -/
def k6 : Class := { plain "java/lang/Number" (some 0) with
  accessFlags := 1057
  interfaces := #[5]
  cf := some (fileOf pool6 8 #[] #[{ accessFlags := 1, nameIndex := 5, descriptorIndex := 6, attributes := #[] }] 1057 2 #[13] #[{ accessFlags := 26, nameIndex := 15, descriptorIndex := 16, attributes := #[] }])
  fields := #[{ name := "serialVersionUID", type := .long, accessFlags := 26, slot := 0, constantValue := 0 }]
  methods := #[k6m0]
  instanceTypes := #[]
  staticTypes := #[.long]
  resolved := Array.replicate 37 none
  statics := none }

def pool7 : Array CpInfo := pool [(1, .class_ 2), (0, u "java/lang/Comparable"), (0, .class_ 4), (0, u "java/lang/Object")] 7

/-- java/lang/Comparable -/
def k7 : Class := { plain "java/lang/Comparable" (some 0) with
  accessFlags := 1537
  interfaces := #[]
  cf := some (fileOf pool7 1 #[] #[] 1537 3 #[] #[])
  fields := #[]
  methods := #[]
  instanceTypes := #[]
  staticTypes := #[]
  resolved := Array.replicate 12 none
  statics := none }

def pool8 : Array CpInfo := pool [(1, .class_ 2), (0, u "java/lang/constant/Constable"), (0, .class_ 4), (0, u "java/lang/Object")] 6

/-- java/lang/constant/Constable -/
def k8 : Class := { plain "java/lang/constant/Constable" (some 0) with
  accessFlags := 1537
  interfaces := #[]
  cf := some (fileOf pool8 1 #[] #[] 1537 3 #[] #[])
  fields := #[]
  methods := #[]
  instanceTypes := #[]
  staticTypes := #[]
  resolved := Array.replicate 11 none
  statics := none }

def pool9 : Array CpInfo := pool [(1, .class_ 2), (0, u "java/lang/constant/ConstantDesc"), (0, .class_ 4), (0, u "java/lang/Object")] 32

/-- java/lang/constant/ConstantDesc -/
def k9 : Class := { plain "java/lang/constant/ConstantDesc" (some 0) with
  accessFlags := 1537
  interfaces := #[]
  cf := some (fileOf pool9 1 #[] #[] 1537 3 #[] #[])
  fields := #[]
  methods := #[]
  instanceTypes := #[]
  staticTypes := #[]
  resolved := Array.replicate 37 none
  statics := none }

def pool10 : Array CpInfo := pool [(1, .class_ 2), (0, u "java/lang/Integer"), (16, u "digits"), (0, u "[C"), (46, u "<init>"), (17, u "DigitOnes"), (0, u "[B"), (2, u "DigitTens"), (10, .nameAndType 67 101), (0, u "()V"), (85, u "valueOf"), (0, u "(I)Ljava/lang/Integer;"), (0, .class_ 190), (0, u "java/lang/Integer$IntegerCache"), (0, .fieldref 189 192), (0, .nameAndType 193 194), (0, u "high"), (0, u "I"), (0, .fieldref 189 196), (0, .nameAndType 197 198), (0, u "cache"), (0, u "[Ljava/lang/Integer;"), (0, .methodref 1 200), (0, .nameAndType 67 201), (0, u "(I)V"), (0, .methodref 203 100), (0, .class_ 204), (0, u "java/lang/Number"), (0, .fieldref 1 206), (0, .nameAndType 207 194), (0, u "value"), (94, u "TYPE"), (0, u "Ljava/lang/Class;"), (0, .class_ 305), (0, u "java/lang/Comparable"), (0, .class_ 307), (0, u "java/lang/constant/Constable"), (0, .class_ 309), (0, u "java/lang/constant/ConstantDesc"), (0, u "MIN_VALUE"), (1, u "MAX_VALUE"), (3, u "SIZE"), (1, u "BYTES"), (1, u "serialVersionUID"), (0, u "J")] 131

def k10c0 : Code := { maxStack := 3, maxLocals := 1, code := jdk_33_method_22_code, exceptionTable := #[], attributes := #[] }
def k10m0 : Method := { name := "valueOf", desc := "(I)Ljava/lang/Integer;", sig := { parameters := [.int], returnType := some (.object "java/lang/Integer") }, accessFlags := 9, code := some k10c0 }
def k10c1 : Code := { maxStack := 2, maxLocals := 2, code := jdk_33_method_23_code, exceptionTable := #[], attributes := #[] }
def k10m1 : Method := { name := "<init>", desc := "(I)V", sig := { parameters := [.int], returnType := none }, accessFlags := 1, code := some k10c1 }
/-- java/lang/Integer -/
def k10 : Class := { plain "java/lang/Integer" (some 6) with
  accessFlags := 49
  interfaces := #[7, 8, 9]
  cf := some (fileOf pool10 1 #[.nestMembers #[189]] #[{ accessFlags := 9, nameIndex := 187, descriptorIndex := 188, attributes := #[] }, { accessFlags := 1, nameIndex := 67, descriptorIndex := 201, attributes := #[] }] 49 203 #[304, 306, 308] #[{ accessFlags := 25, nameIndex := 310, descriptorIndex := 194, attributes := #[] }, { accessFlags := 25, nameIndex := 312, descriptorIndex := 194, attributes := #[] }, { accessFlags := 25, nameIndex := 302, descriptorIndex := 303, attributes := #[] }, { accessFlags := 24, nameIndex := 19, descriptorIndex := 20, attributes := #[] }, { accessFlags := 24, nameIndex := 89, descriptorIndex := 86, attributes := #[] }, { accessFlags := 24, nameIndex := 85, descriptorIndex := 86, attributes := #[] }, { accessFlags := 18, nameIndex := 207, descriptorIndex := 194, attributes := #[] }, { accessFlags := 25, nameIndex := 316, descriptorIndex := 194, attributes := #[] }, { accessFlags := 25, nameIndex := 318, descriptorIndex := 194, attributes := #[] }, { accessFlags := 26, nameIndex := 320, descriptorIndex := 321, attributes := #[] }])
  fields := #[{ name := "MIN_VALUE", type := .int, accessFlags := 25, slot := 0, constantValue := 0 }, { name := "MAX_VALUE", type := .int, accessFlags := 25, slot := 1, constantValue := 0 }, { name := "TYPE", type := (.object "java/lang/Class"), accessFlags := 25, slot := 2, constantValue := 0 }, { name := "digits", type := (.array .char), accessFlags := 24, slot := 3, constantValue := 0 }, { name := "DigitTens", type := (.array .byte), accessFlags := 24, slot := 4, constantValue := 0 }, { name := "DigitOnes", type := (.array .byte), accessFlags := 24, slot := 5, constantValue := 0 }, { name := "value", type := .int, accessFlags := 18, slot := 0, constantValue := 0 }, { name := "SIZE", type := .int, accessFlags := 25, slot := 6, constantValue := 0 }, { name := "BYTES", type := .int, accessFlags := 25, slot := 7, constantValue := 0 }, { name := "serialVersionUID", type := .long, accessFlags := 26, slot := 8, constantValue := 0 }]
  methods := #[k10m0, k10m1]
  instanceTypes := #[.int]
  staticTypes := #[.int, .int, (.object "java/lang/Class"), (.array .char), (.array .byte), (.array .byte), .int, .int, .long]
  resolved := Array.replicate 453 none
  statics := none }

def pool11 : Array CpInfo := pool [(2, .class_ 4), (1, u "java/lang/Object"), (0, u "<init>"), (0, u "()V"), (0, .class_ 8), (0, u "java/lang/Integer"), (7, .class_ 18), (1, u "java/lang/Integer$IntegerCache"), (0, u "$assertionsDisabled"), (0, u "Z"), (26, u "high"), (0, u "I"), (8, u "archivedCache"), (0, u "[Ljava/lang/Integer;"), (12, u "cache"), (0, u "low")] 27

def k11m0 : Method := { name := "<init>", desc := "()V", sig := { parameters := [], returnType := none }, accessFlags := 2, code := none }
/-- java/lang/Integer$IntegerCache -/
def k11 : Class := { plain "java/lang/Integer$IntegerCache" (some 0) with
  accessFlags := 48
  interfaces := #[]
  cf := some (fileOf pool11 16 #[.nestHost 7] #[{ accessFlags := 2, nameIndex := 5, descriptorIndex := 6, attributes := #[] }] 48 2 #[] #[{ accessFlags := 24, nameIndex := 72, descriptorIndex := 48, attributes := #[] }, { accessFlags := 24, nameIndex := 47, descriptorIndex := 48, attributes := #[] }, { accessFlags := 24, nameIndex := 71, descriptorIndex := 58, attributes := #[] }, { accessFlags := 8, nameIndex := 57, descriptorIndex := 58, attributes := #[] }, { accessFlags := 4120, nameIndex := 19, descriptorIndex := 20, attributes := #[] }])
  fields := #[{ name := "low", type := .int, accessFlags := 24, slot := 0, constantValue := 0 }, { name := "high", type := .int, accessFlags := 24, slot := 1, constantValue := 0 }, { name := "cache", type := (.array (.object "java/lang/Integer")), accessFlags := 24, slot := 2, constantValue := 0 }, { name := "archivedCache", type := (.array (.object "java/lang/Integer")), accessFlags := 8, slot := 3, constantValue := 0 }, { name := "$assertionsDisabled", type := .boolean, accessFlags := 4120, slot := 4, constantValue := 0 }]
  methods := #[k11m0]
  instanceTypes := #[]
  staticTypes := #[.int, .int, (.array (.object "java/lang/Integer")), (.array (.object "java/lang/Integer")), .boolean]
  resolved := Array.replicate 100 none
  statics := some 0 }

/-- the primitive byte -/
def k12 : Class := { plain "byte" none with kind := .primitive 'B', accessFlags := 0x411 }
/-- [B -/
def k13 : Class := { plain "[B" (some 0) with kind := .array 12 .byte, interfaces := #[2, 5], accessFlags := 1041 }

/-- the primitive int -/
def k14 : Class := { plain "int" none with kind := .primitive 'I', accessFlags := 0x411 }
/-- [I -/
def k15 : Class := { plain "[I" (some 0) with kind := .array 14 .int, interfaces := #[2, 5], accessFlags := 1041 }

/-- [Ljava/lang/Integer; -/
def k16 : Class := { plain "[Ljava/lang/Integer;" (some 0) with kind := .array 10 (.object "java/lang/Integer"), interfaces := #[2, 5], accessFlags := 1041 }

def heap : Heap := #[{ cls := 11, slots := #[.int 0, .int 127, .ref 1, .null, .int 0], vm := .statics 11 },
  { cls := 16, slots := #[.ref 2, .ref 3, .ref 4, .ref 5, .ref 6, .ref 7, .ref 8, .ref 9, .ref 10, .ref 11, .ref 12, .ref 13, .ref 14, .ref 15, .ref 16, .ref 17, .ref 18, .ref 19, .ref 20, .ref 21, .ref 22, .ref 23, .ref 24, .ref 25, .ref 26, .ref 27, .ref 28, .ref 29, .ref 30, .ref 31, .ref 32, .ref 33, .ref 34, .ref 35, .ref 36, .ref 37, .ref 38, .ref 39, .ref 40, .ref 41, .ref 42, .ref 43, .ref 44, .ref 45, .ref 46, .ref 47, .ref 48, .ref 49, .ref 50, .ref 51, .ref 52, .ref 53, .ref 54, .ref 55, .ref 56, .ref 57, .ref 58, .ref 59, .ref 60, .ref 61, .ref 62, .ref 63, .ref 64, .ref 65, .ref 66, .ref 67, .ref 68, .ref 69, .ref 70, .ref 71, .ref 72, .ref 73, .ref 74, .ref 75, .ref 76, .ref 77, .ref 78, .ref 79, .ref 80, .ref 81, .ref 82, .ref 83, .ref 84, .ref 85, .ref 86, .ref 87, .ref 88, .ref 89, .ref 90, .ref 91, .ref 92, .ref 93, .ref 94, .ref 95, .ref 96, .ref 97, .ref 98, .ref 99, .ref 100, .ref 101, .ref 102, .ref 103, .ref 104, .ref 105, .ref 106, .ref 107, .ref 108, .ref 109, .ref 110, .ref 111, .ref 112, .ref 113, .ref 114, .ref 115, .ref 116, .ref 117, .ref 118, .ref 119, .ref 120, .ref 121, .ref 122, .ref 123, .ref 124, .ref 125, .ref 126, .ref 127, .ref 128, .ref 129, .ref 130, .ref 131, .ref 132, .ref 133, .ref 134, .ref 135, .ref 136, .ref 137, .ref 138, .ref 139, .ref 140, .ref 141, .ref 142, .ref 143, .ref 144, .ref 145, .ref 146, .ref 147, .ref 148, .ref 149, .ref 150, .ref 151, .ref 152, .ref 153, .ref 154, .ref 155, .ref 156, .ref 157, .ref 158, .ref 159, .ref 160, .ref 161, .ref 162, .ref 163, .ref 164, .ref 165, .ref 166, .ref 167, .ref 168, .ref 169, .ref 170, .ref 171, .ref 172, .ref 173, .ref 174, .ref 175, .ref 176, .ref 177, .ref 178, .ref 179, .ref 180, .ref 181, .ref 182, .ref 183, .ref 184, .ref 185, .ref 186, .ref 187, .ref 188, .ref 189, .ref 190, .ref 191, .ref 192, .ref 193, .ref 194, .ref 195, .ref 196, .ref 197, .ref 198, .ref 199, .ref 200, .ref 201, .ref 202, .ref 203, .ref 204, .ref 205, .ref 206, .ref 207, .ref 208, .ref 209, .ref 210, .ref 211, .ref 212, .ref 213, .ref 214, .ref 215, .ref 216, .ref 217, .ref 218, .ref 219, .ref 220, .ref 221, .ref 222, .ref 223, .ref 224, .ref 225, .ref 226, .ref 227, .ref 228, .ref 229, .ref 230, .ref 231, .ref 232, .ref 233, .ref 234, .ref 235, .ref 236, .ref 237, .ref 238, .ref 239, .ref 240, .ref 241, .ref 242, .ref 243, .ref 244, .ref 245, .ref 246, .ref 247, .ref 248, .ref 249, .ref 250, .ref 251, .ref 252, .ref 253, .ref 254, .ref 255, .ref 256, .ref 257], vm := .none },
  { cls := 10, slots := #[.int (-128)], vm := .none },
  { cls := 10, slots := #[.int (-127)], vm := .none },
  { cls := 10, slots := #[.int (-126)], vm := .none },
  { cls := 10, slots := #[.int (-125)], vm := .none },
  { cls := 10, slots := #[.int (-124)], vm := .none },
  { cls := 10, slots := #[.int (-123)], vm := .none },
  { cls := 10, slots := #[.int (-122)], vm := .none },
  { cls := 10, slots := #[.int (-121)], vm := .none },
  { cls := 10, slots := #[.int (-120)], vm := .none },
  { cls := 10, slots := #[.int (-119)], vm := .none },
  { cls := 10, slots := #[.int (-118)], vm := .none },
  { cls := 10, slots := #[.int (-117)], vm := .none },
  { cls := 10, slots := #[.int (-116)], vm := .none },
  { cls := 10, slots := #[.int (-115)], vm := .none },
  { cls := 10, slots := #[.int (-114)], vm := .none },
  { cls := 10, slots := #[.int (-113)], vm := .none },
  { cls := 10, slots := #[.int (-112)], vm := .none },
  { cls := 10, slots := #[.int (-111)], vm := .none },
  { cls := 10, slots := #[.int (-110)], vm := .none },
  { cls := 10, slots := #[.int (-109)], vm := .none },
  { cls := 10, slots := #[.int (-108)], vm := .none },
  { cls := 10, slots := #[.int (-107)], vm := .none },
  { cls := 10, slots := #[.int (-106)], vm := .none },
  { cls := 10, slots := #[.int (-105)], vm := .none },
  { cls := 10, slots := #[.int (-104)], vm := .none },
  { cls := 10, slots := #[.int (-103)], vm := .none },
  { cls := 10, slots := #[.int (-102)], vm := .none },
  { cls := 10, slots := #[.int (-101)], vm := .none },
  { cls := 10, slots := #[.int (-100)], vm := .none },
  { cls := 10, slots := #[.int (-99)], vm := .none },
  { cls := 10, slots := #[.int (-98)], vm := .none },
  { cls := 10, slots := #[.int (-97)], vm := .none },
  { cls := 10, slots := #[.int (-96)], vm := .none },
  { cls := 10, slots := #[.int (-95)], vm := .none },
  { cls := 10, slots := #[.int (-94)], vm := .none },
  { cls := 10, slots := #[.int (-93)], vm := .none },
  { cls := 10, slots := #[.int (-92)], vm := .none },
  { cls := 10, slots := #[.int (-91)], vm := .none },
  { cls := 10, slots := #[.int (-90)], vm := .none },
  { cls := 10, slots := #[.int (-89)], vm := .none },
  { cls := 10, slots := #[.int (-88)], vm := .none },
  { cls := 10, slots := #[.int (-87)], vm := .none },
  { cls := 10, slots := #[.int (-86)], vm := .none },
  { cls := 10, slots := #[.int (-85)], vm := .none },
  { cls := 10, slots := #[.int (-84)], vm := .none },
  { cls := 10, slots := #[.int (-83)], vm := .none },
  { cls := 10, slots := #[.int (-82)], vm := .none },
  { cls := 10, slots := #[.int (-81)], vm := .none },
  { cls := 10, slots := #[.int (-80)], vm := .none },
  { cls := 10, slots := #[.int (-79)], vm := .none },
  { cls := 10, slots := #[.int (-78)], vm := .none },
  { cls := 10, slots := #[.int (-77)], vm := .none },
  { cls := 10, slots := #[.int (-76)], vm := .none },
  { cls := 10, slots := #[.int (-75)], vm := .none },
  { cls := 10, slots := #[.int (-74)], vm := .none },
  { cls := 10, slots := #[.int (-73)], vm := .none },
  { cls := 10, slots := #[.int (-72)], vm := .none },
  { cls := 10, slots := #[.int (-71)], vm := .none },
  { cls := 10, slots := #[.int (-70)], vm := .none },
  { cls := 10, slots := #[.int (-69)], vm := .none },
  { cls := 10, slots := #[.int (-68)], vm := .none },
  { cls := 10, slots := #[.int (-67)], vm := .none },
  { cls := 10, slots := #[.int (-66)], vm := .none },
  { cls := 10, slots := #[.int (-65)], vm := .none },
  { cls := 10, slots := #[.int (-64)], vm := .none },
  { cls := 10, slots := #[.int (-63)], vm := .none },
  { cls := 10, slots := #[.int (-62)], vm := .none },
  { cls := 10, slots := #[.int (-61)], vm := .none },
  { cls := 10, slots := #[.int (-60)], vm := .none },
  { cls := 10, slots := #[.int (-59)], vm := .none },
  { cls := 10, slots := #[.int (-58)], vm := .none },
  { cls := 10, slots := #[.int (-57)], vm := .none },
  { cls := 10, slots := #[.int (-56)], vm := .none },
  { cls := 10, slots := #[.int (-55)], vm := .none },
  { cls := 10, slots := #[.int (-54)], vm := .none },
  { cls := 10, slots := #[.int (-53)], vm := .none },
  { cls := 10, slots := #[.int (-52)], vm := .none },
  { cls := 10, slots := #[.int (-51)], vm := .none },
  { cls := 10, slots := #[.int (-50)], vm := .none },
  { cls := 10, slots := #[.int (-49)], vm := .none },
  { cls := 10, slots := #[.int (-48)], vm := .none },
  { cls := 10, slots := #[.int (-47)], vm := .none },
  { cls := 10, slots := #[.int (-46)], vm := .none },
  { cls := 10, slots := #[.int (-45)], vm := .none },
  { cls := 10, slots := #[.int (-44)], vm := .none },
  { cls := 10, slots := #[.int (-43)], vm := .none },
  { cls := 10, slots := #[.int (-42)], vm := .none },
  { cls := 10, slots := #[.int (-41)], vm := .none },
  { cls := 10, slots := #[.int (-40)], vm := .none },
  { cls := 10, slots := #[.int (-39)], vm := .none },
  { cls := 10, slots := #[.int (-38)], vm := .none },
  { cls := 10, slots := #[.int (-37)], vm := .none },
  { cls := 10, slots := #[.int (-36)], vm := .none },
  { cls := 10, slots := #[.int (-35)], vm := .none },
  { cls := 10, slots := #[.int (-34)], vm := .none },
  { cls := 10, slots := #[.int (-33)], vm := .none },
  { cls := 10, slots := #[.int (-32)], vm := .none },
  { cls := 10, slots := #[.int (-31)], vm := .none },
  { cls := 10, slots := #[.int (-30)], vm := .none },
  { cls := 10, slots := #[.int (-29)], vm := .none },
  { cls := 10, slots := #[.int (-28)], vm := .none },
  { cls := 10, slots := #[.int (-27)], vm := .none },
  { cls := 10, slots := #[.int (-26)], vm := .none },
  { cls := 10, slots := #[.int (-25)], vm := .none },
  { cls := 10, slots := #[.int (-24)], vm := .none },
  { cls := 10, slots := #[.int (-23)], vm := .none },
  { cls := 10, slots := #[.int (-22)], vm := .none },
  { cls := 10, slots := #[.int (-21)], vm := .none },
  { cls := 10, slots := #[.int (-20)], vm := .none },
  { cls := 10, slots := #[.int (-19)], vm := .none },
  { cls := 10, slots := #[.int (-18)], vm := .none },
  { cls := 10, slots := #[.int (-17)], vm := .none },
  { cls := 10, slots := #[.int (-16)], vm := .none },
  { cls := 10, slots := #[.int (-15)], vm := .none },
  { cls := 10, slots := #[.int (-14)], vm := .none },
  { cls := 10, slots := #[.int (-13)], vm := .none },
  { cls := 10, slots := #[.int (-12)], vm := .none },
  { cls := 10, slots := #[.int (-11)], vm := .none },
  { cls := 10, slots := #[.int (-10)], vm := .none },
  { cls := 10, slots := #[.int (-9)], vm := .none },
  { cls := 10, slots := #[.int (-8)], vm := .none },
  { cls := 10, slots := #[.int (-7)], vm := .none },
  { cls := 10, slots := #[.int (-6)], vm := .none },
  { cls := 10, slots := #[.int (-5)], vm := .none },
  { cls := 10, slots := #[.int (-4)], vm := .none },
  { cls := 10, slots := #[.int (-3)], vm := .none },
  { cls := 10, slots := #[.int (-2)], vm := .none },
  { cls := 10, slots := #[.int (-1)], vm := .none },
  { cls := 10, slots := #[.int 0], vm := .none },
  { cls := 10, slots := #[.int 1], vm := .none },
  { cls := 10, slots := #[.int 2], vm := .none },
  { cls := 10, slots := #[.int 3], vm := .none },
  { cls := 10, slots := #[.int 4], vm := .none },
  { cls := 10, slots := #[.int 5], vm := .none },
  { cls := 10, slots := #[.int 6], vm := .none },
  { cls := 10, slots := #[.int 7], vm := .none },
  { cls := 10, slots := #[.int 8], vm := .none },
  { cls := 10, slots := #[.int 9], vm := .none },
  { cls := 10, slots := #[.int 10], vm := .none },
  { cls := 10, slots := #[.int 11], vm := .none },
  { cls := 10, slots := #[.int 12], vm := .none },
  { cls := 10, slots := #[.int 13], vm := .none },
  { cls := 10, slots := #[.int 14], vm := .none },
  { cls := 10, slots := #[.int 15], vm := .none },
  { cls := 10, slots := #[.int 16], vm := .none },
  { cls := 10, slots := #[.int 17], vm := .none },
  { cls := 10, slots := #[.int 18], vm := .none },
  { cls := 10, slots := #[.int 19], vm := .none },
  { cls := 10, slots := #[.int 20], vm := .none },
  { cls := 10, slots := #[.int 21], vm := .none },
  { cls := 10, slots := #[.int 22], vm := .none },
  { cls := 10, slots := #[.int 23], vm := .none },
  { cls := 10, slots := #[.int 24], vm := .none },
  { cls := 10, slots := #[.int 25], vm := .none },
  { cls := 10, slots := #[.int 26], vm := .none },
  { cls := 10, slots := #[.int 27], vm := .none },
  { cls := 10, slots := #[.int 28], vm := .none },
  { cls := 10, slots := #[.int 29], vm := .none },
  { cls := 10, slots := #[.int 30], vm := .none },
  { cls := 10, slots := #[.int 31], vm := .none },
  { cls := 10, slots := #[.int 32], vm := .none },
  { cls := 10, slots := #[.int 33], vm := .none },
  { cls := 10, slots := #[.int 34], vm := .none },
  { cls := 10, slots := #[.int 35], vm := .none },
  { cls := 10, slots := #[.int 36], vm := .none },
  { cls := 10, slots := #[.int 37], vm := .none },
  { cls := 10, slots := #[.int 38], vm := .none },
  { cls := 10, slots := #[.int 39], vm := .none },
  { cls := 10, slots := #[.int 40], vm := .none },
  { cls := 10, slots := #[.int 41], vm := .none },
  { cls := 10, slots := #[.int 42], vm := .none },
  { cls := 10, slots := #[.int 43], vm := .none },
  { cls := 10, slots := #[.int 44], vm := .none },
  { cls := 10, slots := #[.int 45], vm := .none },
  { cls := 10, slots := #[.int 46], vm := .none },
  { cls := 10, slots := #[.int 47], vm := .none },
  { cls := 10, slots := #[.int 48], vm := .none },
  { cls := 10, slots := #[.int 49], vm := .none },
  { cls := 10, slots := #[.int 50], vm := .none },
  { cls := 10, slots := #[.int 51], vm := .none },
  { cls := 10, slots := #[.int 52], vm := .none },
  { cls := 10, slots := #[.int 53], vm := .none },
  { cls := 10, slots := #[.int 54], vm := .none },
  { cls := 10, slots := #[.int 55], vm := .none },
  { cls := 10, slots := #[.int 56], vm := .none },
  { cls := 10, slots := #[.int 57], vm := .none },
  { cls := 10, slots := #[.int 58], vm := .none },
  { cls := 10, slots := #[.int 59], vm := .none },
  { cls := 10, slots := #[.int 60], vm := .none },
  { cls := 10, slots := #[.int 61], vm := .none },
  { cls := 10, slots := #[.int 62], vm := .none },
  { cls := 10, slots := #[.int 63], vm := .none },
  { cls := 10, slots := #[.int 64], vm := .none },
  { cls := 10, slots := #[.int 65], vm := .none },
  { cls := 10, slots := #[.int 66], vm := .none },
  { cls := 10, slots := #[.int 67], vm := .none },
  { cls := 10, slots := #[.int 68], vm := .none },
  { cls := 10, slots := #[.int 69], vm := .none },
  { cls := 10, slots := #[.int 70], vm := .none },
  { cls := 10, slots := #[.int 71], vm := .none },
  { cls := 10, slots := #[.int 72], vm := .none },
  { cls := 10, slots := #[.int 73], vm := .none },
  { cls := 10, slots := #[.int 74], vm := .none },
  { cls := 10, slots := #[.int 75], vm := .none },
  { cls := 10, slots := #[.int 76], vm := .none },
  { cls := 10, slots := #[.int 77], vm := .none },
  { cls := 10, slots := #[.int 78], vm := .none },
  { cls := 10, slots := #[.int 79], vm := .none },
  { cls := 10, slots := #[.int 80], vm := .none },
  { cls := 10, slots := #[.int 81], vm := .none },
  { cls := 10, slots := #[.int 82], vm := .none },
  { cls := 10, slots := #[.int 83], vm := .none },
  { cls := 10, slots := #[.int 84], vm := .none },
  { cls := 10, slots := #[.int 85], vm := .none },
  { cls := 10, slots := #[.int 86], vm := .none },
  { cls := 10, slots := #[.int 87], vm := .none },
  { cls := 10, slots := #[.int 88], vm := .none },
  { cls := 10, slots := #[.int 89], vm := .none },
  { cls := 10, slots := #[.int 90], vm := .none },
  { cls := 10, slots := #[.int 91], vm := .none },
  { cls := 10, slots := #[.int 92], vm := .none },
  { cls := 10, slots := #[.int 93], vm := .none },
  { cls := 10, slots := #[.int 94], vm := .none },
  { cls := 10, slots := #[.int 95], vm := .none },
  { cls := 10, slots := #[.int 96], vm := .none },
  { cls := 10, slots := #[.int 97], vm := .none },
  { cls := 10, slots := #[.int 98], vm := .none },
  { cls := 10, slots := #[.int 99], vm := .none },
  { cls := 10, slots := #[.int 100], vm := .none },
  { cls := 10, slots := #[.int 101], vm := .none },
  { cls := 10, slots := #[.int 102], vm := .none },
  { cls := 10, slots := #[.int 103], vm := .none },
  { cls := 10, slots := #[.int 104], vm := .none },
  { cls := 10, slots := #[.int 105], vm := .none },
  { cls := 10, slots := #[.int 106], vm := .none },
  { cls := 10, slots := #[.int 107], vm := .none },
  { cls := 10, slots := #[.int 108], vm := .none },
  { cls := 10, slots := #[.int 109], vm := .none },
  { cls := 10, slots := #[.int 110], vm := .none },
  { cls := 10, slots := #[.int 111], vm := .none },
  { cls := 10, slots := #[.int 112], vm := .none },
  { cls := 10, slots := #[.int 113], vm := .none },
  { cls := 10, slots := #[.int 114], vm := .none },
  { cls := 10, slots := #[.int 115], vm := .none },
  { cls := 10, slots := #[.int 116], vm := .none },
  { cls := 10, slots := #[.int 117], vm := .none },
  { cls := 10, slots := #[.int 118], vm := .none },
  { cls := 10, slots := #[.int 119], vm := .none },
  { cls := 10, slots := #[.int 120], vm := .none },
  { cls := 10, slots := #[.int 121], vm := .none },
  { cls := 10, slots := #[.int 122], vm := .none },
  { cls := 10, slots := #[.int 123], vm := .none },
  { cls := 10, slots := #[.int 124], vm := .none },
  { cls := 10, slots := #[.int 125], vm := .none },
  { cls := 10, slots := #[.int 126], vm := .none },
  { cls := 10, slots := #[.int 127], vm := .none }]
def classes : Array Class := #[k0, k1, k2, k3, k4, k5, k6, k7, k8, k9, k10, k11, k12, k13, k14, k15, k16]
def interned : List (Array UInt16 × Addr) := []
def slotsUsed : Nat := 517
def theMethod : MethodId := ⟨1, 1⟩
def args0 : Array Value := #[.int 5, .int 5, .int 5, .int 5, .int 5, .int 5]
def aboutOver (below : List Frame) : State where
  vm := { classes := classes, interned := interned.toArray }
  heap := heap
  slotsUsed := slotsUsed
  threads := #[{ frames := .invoking theMethod args0 :: below }]
def below0 : List Frame := [.native { method := ⟨0, 0⟩, args := #[] }]
def about1 : State := aboutOver below0
def p0 : Program := .bare "" "" ""
def e0 : Env := launch0.env 0 0 0
theorem w_frames : about1.frames = Frame.invoking theMethod args0 :: below0 := rfl
set_option maxRecDepth 65536 in
theorem w_args : argsFit about1.vm theMethod args0 = true := by decide +kernel
set_option maxRecDepth 65536 in
theorem w_heap : heapFits about1 = true := by decide +kernel
set_option maxRecDepth 65536 in
theorem w_runnable : about1.curStatus? = some .runnable := by decide +kernel
set_option maxRecDepth 65536 in
theorem w_alone : about1.alone = true := by decide +kernel
set_option maxRecDepth 65536 in
theorem w_named : about1.methodNamed? x = some theMethod := by decide +kernel
set_option maxRecDepth 65536 in
theorem w_hears : about1.hears theMethod below0 = true := by decide +kernel
set_option maxRecDepth 65536 in
theorem w_ripe : about1.ripe theMethod args0 below0 = true := by decide +kernel
theorem w_running : about1.status = .running := rfl
set_option maxRecDepth 65536 in
theorem w_room : about1.hasRoom e0.platform room_1 = true :=
  launch0.hasRoom_least _ room_1 (by decide +kernel) (by decide +kernel) (by decide +kernel) (by decide +kernel) (by decide +kernel) (by decide +kernel)
theorem allAtoms_all (ts : List Jvm.Cond) (a : Array Jvm.Value) (st : Jvm.State) : (allAtoms ts).before a st = ts.all (fun c => c.before a st) := by
  induction ts with
  | nil => rfl
  | cons c t ih =>
    show (Jvm.Cond.and c (allAtoms t)).before a st = _
    rw [Jvm.Cond.before_and, ih, List.all_cons]
def words1 : List Jvm.Cond := Jvm.Cond.code x code maxLocals ret :: tables_1
/-- a 'code' word, met by the world's own term for the bytes: nothing is compared byte by byte -/
theorem code_word {y : MethodName} {bytes : ByteArray} {mx : Nat} {rt : Option FieldType} {a : Array Value} {s : State} {m : MethodId} {meth : Method} {c : Code} (h1 : s.methodNamed? y = some m) (h2 : s.vm.method? m = some meth) (h3 : meth.code = some c) (h4 : c.code = bytes)
    (h5 : (c.maxLocals == mx && c.exceptionTable.isEmpty && decide (c.maxStack ≤ mostOperands) && decide (meth.sig.returnType = rt) && !meth.locks && decide (parseMethodDescriptor y.desc = some meth.sig)) = true) : (Jvm.Cond.code y bytes mx rt).before a s = true := by
  simp only [Bool.and_eq_true, beq_iff_eq, Bool.not_eq_true', decide_eq_true_eq] at h5
  obtain ⟨⟨⟨⟨⟨g1, g2⟩, g3⟩, g4⟩, g5⟩, g6⟩ := h5
  simp [Cond.before, Cond.holds, Cond.value, h1, h2, h3, h4, g1, g2, g3, g4, g5, g6]
def isCode : Jvm.Cond → Bool
  | .code _ _ _ _ => true
  | _ => false
theorem all_split {L : List Jvm.Cond} {P : Jvm.Cond → Bool} (h1 : L.all (fun c => isCode c || P c) = true) (h2 : ∀ c ∈ L.filter isCode, P c = true) : L.all P = true := by
  refine List.all_eq_true.mpr fun c hc => ?_
  have h := List.all_eq_true.mp h1 c hc
  rcases Bool.eq_false_or_eq_true (isCode c) with hi | hi
  · exact h2 c (List.mem_filter.mpr ⟨hc, hi⟩)
  · simpa [hi] using h
set_option maxRecDepth 65536 in
theorem w_c0 : (Jvm.Cond.code x code maxLocals ret).before args0 about1 = true := code_word (m := ⟨1, 1⟩) (meth := k1m1) (c := k1c1) (by decide +kernel) rfl rfl rfl (by decide +kernel)
set_option maxRecDepth 65536 in
theorem w_c1 : (Jvm.Cond.code ({ cls := "com/example/termite/termite/protocol/ApiVersionsResponse$VersionRange", name := "<init>", desc := "(SSS)V" } : Jvm.MethodName) prog_83_method_2_code (4 : Nat) (Option.none : Option Jvm.ClassFile.FieldType)).before args0 about1 = true := code_word (m := ⟨4, 1⟩) (meth := k4m1) (c := k4c1) (by decide +kernel) rfl rfl rfl (by decide +kernel)
set_option maxRecDepth 65536 in
theorem w_c2 : (Jvm.Cond.code ({ cls := "com/example/termite/termite/protocol/Structure", name := "<init>", desc := "()V" } : Jvm.MethodName) prog_211_method_1_code (1 : Nat) (Option.none : Option Jvm.ClassFile.FieldType)).before args0 about1 = true := code_word (m := ⟨3, 0⟩) (meth := k3m0) (c := k3c0) (by decide +kernel) rfl rfl rfl (by decide +kernel)
set_option maxRecDepth 65536 in
theorem w_c3 : (Jvm.Cond.code ({ cls := "java/lang/Object", name := "<init>", desc := "()V" } : Jvm.MethodName) object_method_1_code (1 : Nat) (Option.none : Option Jvm.ClassFile.FieldType)).before args0 about1 = true := code_word (m := ⟨0, 0⟩) (meth := k0m0) (c := k0c0) (by decide +kernel) rfl rfl rfl (by decide +kernel)
set_option maxRecDepth 65536 in
theorem w_c4 : (Jvm.Cond.code ({ cls := "com/example/termite/termite/protocol/ApiVersionsResponse$VersionRange", name := "equals", desc := "(Ljava/lang/Object;)Z" } : Jvm.MethodName) prog_83_method_7_code (3 : Nat) (Option.some Jvm.ClassFile.FieldType.boolean)).before args0 about1 = true := code_word (m := ⟨4, 2⟩) (meth := k4m2) (c := k4c2) (by decide +kernel) rfl rfl rfl (by decide +kernel)
set_option maxRecDepth 65536 in
theorem w_c5 : (Jvm.Cond.code ({ cls := "java/lang/Integer", name := "valueOf", desc := "(I)Ljava/lang/Integer;" } : Jvm.MethodName) jdk_33_method_22_code (1 : Nat) (Option.some (Jvm.ClassFile.FieldType.object "java/lang/Integer"))).before args0 about1 = true := code_word (m := ⟨10, 0⟩) (meth := k10m0) (c := k10c0) (by decide +kernel) rfl rfl rfl (by decide +kernel)
set_option maxRecDepth 65536 in
theorem w_c6 : (Jvm.Cond.code ({ cls := "java/lang/Integer", name := "<init>", desc := "(I)V" } : Jvm.MethodName) jdk_33_method_23_code (2 : Nat) (Option.none : Option Jvm.ClassFile.FieldType)).before args0 about1 = true := code_word (m := ⟨10, 1⟩) (meth := k10m1) (c := k10c1) (by decide +kernel) rfl rfl rfl (by decide +kernel)
set_option maxRecDepth 65536 in
theorem w_c7 : (Jvm.Cond.code ({ cls := "java/lang/Number", name := "<init>", desc := "()V" } : Jvm.MethodName) jdk_18_method_1_code (1 : Nat) (Option.none : Option Jvm.ClassFile.FieldType)).before args0 about1 = true := code_word (m := ⟨6, 0⟩) (meth := k6m0) (c := k6c0) (by decide +kernel) rfl rfl rfl (by decide +kernel)
def codes1 : List Jvm.Cond := [Jvm.Cond.code x code maxLocals ret, Jvm.Cond.code ({ cls := "com/example/termite/termite/protocol/ApiVersionsResponse$VersionRange", name := "<init>", desc := "(SSS)V" } : Jvm.MethodName) prog_83_method_2_code (4 : Nat) (Option.none : Option Jvm.ClassFile.FieldType), Jvm.Cond.code ({ cls := "com/example/termite/termite/protocol/Structure", name := "<init>", desc := "()V" } : Jvm.MethodName) prog_211_method_1_code (1 : Nat) (Option.none : Option Jvm.ClassFile.FieldType), Jvm.Cond.code ({ cls := "java/lang/Object", name := "<init>", desc := "()V" } : Jvm.MethodName) object_method_1_code (1 : Nat) (Option.none : Option Jvm.ClassFile.FieldType), Jvm.Cond.code ({ cls := "com/example/termite/termite/protocol/ApiVersionsResponse$VersionRange", name := "equals", desc := "(Ljava/lang/Object;)Z" } : Jvm.MethodName) prog_83_method_7_code (3 : Nat) (Option.some Jvm.ClassFile.FieldType.boolean), Jvm.Cond.code ({ cls := "java/lang/Integer", name := "valueOf", desc := "(I)Ljava/lang/Integer;" } : Jvm.MethodName) jdk_33_method_22_code (1 : Nat) (Option.some (Jvm.ClassFile.FieldType.object "java/lang/Integer")), Jvm.Cond.code ({ cls := "java/lang/Integer", name := "<init>", desc := "(I)V" } : Jvm.MethodName) jdk_33_method_23_code (2 : Nat) (Option.none : Option Jvm.ClassFile.FieldType), Jvm.Cond.code ({ cls := "java/lang/Number", name := "<init>", desc := "()V" } : Jvm.MethodName) jdk_18_method_1_code (1 : Nat) (Option.none : Option Jvm.ClassFile.FieldType)]
set_option maxRecDepth 65536 in
theorem codes_eq : words1.filter isCode = codes1 := rfl
theorem w_codes : ∀ c ∈ words1.filter isCode, c.before args0 about1 = true := by
  rw [codes_eq]
  intro c hc
  simp only [codes1, List.mem_cons, List.not_mem_nil, or_false] at hc
  rcases hc with rfl | rfl | rfl | rfl | rfl | rfl | rfl | rfl
  · exact w_c0
  · exact w_c1
  · exact w_c2
  · exact w_c3
  · exact w_c4
  · exact w_c5
  · exact w_c6
  · exact w_c7
set_option maxRecDepth 65536 in
theorem w_t1 : (words1.take 24).all (fun c => isCode c || c.before args0 about1) = true := by decide +kernel
set_option maxRecDepth 65536 in
theorem w_t2 : ((words1.drop 24).take 24).all (fun c => isCode c || c.before args0 about1) = true := by decide +kernel
set_option maxRecDepth 65536 in
theorem w_t3 : ((words1.drop 24).drop 24).all (fun c => isCode c || c.before args0 about1) = true := by decide +kernel
theorem w_tables : (allAtoms (Jvm.Cond.code x code maxLocals ret :: tables_1)).before args0 about1 = true := by
  rw [allAtoms_all]
  show words1.all (fun c => c.before args0 about1) = true
  refine all_split ?_ w_codes
  rw [← List.take_append_drop 24 words1, List.all_append, w_t1, ← List.take_append_drop 24 (words1.drop 24), List.all_append, w_t2, w_t3]
  rfl
set_option maxRecDepth 65536 in
theorem w_rest : rest_1_c.before args0 about1 = true := by decide +kernel
set_option maxRecDepth 65536 in
theorem w_case : (Jvm.Cond.and given_1 narrow_1).before args0 about1 = true := by decide +kernel
theorem w_applies : (headSpec (Jvm.Cond.code x code maxLocals ret :: tables_1) room_1).applies x e0.platform about1 = true :=
  (Spec.applies_iff w_frames).mpr ⟨w_running, w_runnable, w_alone, w_named, w_hears, w_ripe, w_room, w_tables⟩
theorem atStart : AtStart classFile x code maxLocals ret World_1 tables_1 room_1 Calls_1 rest_1 Pre_1 launch0 p0 e0 about1 theMethod args0 below0 :=
  ⟨lists_1, trivial, launch0.admits_env _ _ _, launch0.least_env, fairChoices_fair.cas, fairChoices_fair.clock, w_frames, w_args, w_heap, w_applies, trivial, w_rest, w_case⟩
end start1
theorem witness_1 : WitnessClaimed_1 := ⟨start1.p0, start1.e0, start1.about1, start1.theMethod, start1.args0, start1.below0, start1.atStart⟩
end Jvm.Pilot.@@N@@
