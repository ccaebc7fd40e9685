import JvmDerived
import JvmDerived.Pilot.@@N@@Statement
import JvmDerived.Pilot.@@N@@Code
set_option linter.unusedVariables false
set_option linter.unusedSimpArgs false
namespace Jvm.RoadKit
open Sem ClassFile Op Lib Jvm.Stand Jvm.Free Jvm.LawKit
section New
variable {p : Program} {l : Launch} {e : Env} {R : Room} {s : State} {m : MethodId} {args : Array Value} {below : List Frame} {meth : Method} {c : Code} {T : State} {locs : List Loc} {cells slots : Nat}
theorem retI (X : Stand p l e R s m args below meth c T locs cells slots) (hx : p.tables.exec = Jvm.exec) {pc : Nat} {Ls : Array Slot} {z : Int32} {rest : List Value} (hret : meth.sig.returnType = some .int) (hd : decode c.code pc = .ok (.ireturn, 1)) {fs : List Frame}
    (hl : ∀ (f : JFrame) (acts : List Action), f.method = m → f.locked = none → f.entered = [] → (doReturn e (T.setTop f) acts (some (.int z))).1 = T.setFrames fs) : Steps p.tables e below (T.setTop (mkF m pc Ls (.int z :: rest))) (T.setFrames fs) := by
  have hm' : T.vm.method? m = some meth := X.method'
  have hn : narrow .int (.int z) = .int z := rfl
  show Steps p.tables e below (T.setTop { method := m, pc := pc, locals := Ls, stack := _ :: rest, locked := none }) _
  jvm_step X.here [X.here.top, hx, hd, hm', hret, hn]
  first | (intro acts; rw [hl _ acts rfl rfl rfl]) | rw [hl _ _ rfl rfl rfl]
  exact Steps.refl _
theorem retJ (X : Stand p l e R s m args below meth c T locs cells slots) (hx : p.tables.exec = Jvm.exec) {pc : Nat} {Ls : Array Slot} {z : Int64} {rest : List Value} (hret : meth.sig.returnType = some .long) (hd : decode c.code pc = .ok (.lreturn, 1)) {fs : List Frame}
    (hl : ∀ (f : JFrame) (acts : List Action), f.method = m → f.locked = none → f.entered = [] → (doReturn e (T.setTop f) acts (some (.long z))).1 = T.setFrames fs) : Steps p.tables e below (T.setTop (mkF m pc Ls (.long z :: rest))) (T.setFrames fs) := by
  have hm' : T.vm.method? m = some meth := X.method'
  have hn : narrow .long (.long z) = .long z := rfl
  show Steps p.tables e below (T.setTop { method := m, pc := pc, locals := Ls, stack := _ :: rest, locked := none }) _
  jvm_step X.here [X.here.top, hx, hd, hm', hret, hn]
  first | (intro acts; rw [hl _ acts rfl rfl rfl]) | rw [hl _ _ rfl rfl rfl]
  exact Steps.refl _
end New
end Jvm.RoadKit
namespace Jvm.Pilot.@@N@@
open Jvm Jvm.ClassFile Sem Op Lib Jvm.Free Jvm.Stand Jvm.LawKit Jvm.RoadKit Bundle Jvm.Pilot.@@N@@.Jvm.D
theorem own_j1 {G : Prop} {A : Prop → Prop} (h1 : A G) (h2 : A G → G) : G := h2 h1
theorem own_static {args : Array Value} {s : State} {C n d K : String} (h : (Jvm.Cond.exactly (Term.static C n d) K).value args s none s [] = some true) (hi : (Jvm.Cond.initialized C).before args s = true) (hl : (Jvm.Cond.laysStatic C n d).before args s = true) :
    ∃ a, (Term.static C n d).eval args s none [] s = some (.ref a) ∧ Exa s s.heap a K ∧ Sta s s.heap C n d (.ref a) := by
  obtain ⟨a, ev⟩ := exa_v h
  exact ⟨a, ev, Exa.start ev h, Sta.start ev (Or.inr ⟨hi, hl⟩)⟩
theorem own_ord {args : Array Value} {s : State} {C n d : String} {a : Addr} {k : Int32} (ev : (Term.static C n d).eval args s none [] s = some (.ref a)) (h : (Jvm.Cond.eq (Term.field (Term.static C n d) "java/lang/Enum" "ordinal" "I") (Term.int k)).value args s none s [] = some true) :
    Fld s s.heap a "java/lang/Enum" "ordinal" "I" (.int k) := by
  have q := Jvm.Free.NT.SwA.eq_int (Cond.before_iff.mpr h)
  rw [fld_at ev] at q
  exact Fld.start q
theorem own_vne {x y : Int32} (h : x ≠ y) : Value.int x ≠ Value.int y := fun q => h (Value.int.inj q)
theorem own_sub1 {args : Array Value} {s : State} {idx : List Nat} {t : Term} {j : Int32} (h : t.eval args s none idx s = some (.int j)) : (Term.sub t (Term.int 128)).eval args s none idx s = some (.int (j - 128)) := by
  simp [Term.eval, h]
theorem own_cache {s : State} {args : Array Value} (w1 : (Jvm.Cond.initializedFor "java/lang/Integer$IntegerCache" "high" "I").before args s = true) (w2 : (Jvm.Cond.laysStatic "java/lang/Integer$IntegerCache" "cache" "[Ljava/lang/Integer;").before args s = true)
    (w3 : (Jvm.Cond.eq (Term.static "java/lang/Integer$IntegerCache" "high" "I") (Term.int 127)).before args s = true) (w4 : (Jvm.Cond.arrayOf (Term.static "java/lang/Integer$IntegerCache" "cache" "[Ljava/lang/Integer;") (.object "java/lang/Integer")).before args s = true)
    (w6 : (Jvm.Cond.eq (Term.length (Term.static "java/lang/Integer$IntegerCache" "cache" "[Ljava/lang/Integer;")) (Term.int 256)).before args s = true)
    (w7 : (Jvm.Cond.all (Term.static "java/lang/Integer$IntegerCache" "cache" "[Ljava/lang/Integer;") (Jvm.Cond.and (Jvm.Cond.exactly (Term.elem (Term.static "java/lang/Integer$IntegerCache" "cache" "[Ljava/lang/Integer;") (Term.index 0)) "java/lang/Integer") (Jvm.Cond.eq (Term.field (Term.elem (Term.static "java/lang/Integer$IntegerCache" "cache" "[Ljava/lang/Integer;") (Term.index 0)) "java/lang/Integer" "value" "I") (Term.sub (Term.index 0) (Term.int 128))))).before args s = true)
    (wi : (Jvm.Cond.initialized "java/lang/Integer$IntegerCache").before args s = true) :
    Sta s s.heap "java/lang/Integer$IntegerCache" "high" "I" (.int 127) ∧ ∃ (ca : Addr) (cc : Cell), Sta s s.heap "java/lang/Integer$IntegerCache" "cache" "[Ljava/lang/Integer;" (.ref ca) ∧ Bxs s ca cc "java/lang/Integer" "I" 256 (fun j => .int (j - 128)) := by
  have e1 := Jvm.Free.NT.SwA.eq_int w3
  have v4 := Cond.before_iff.mp w4
  obtain ⟨ca, ev⟩ := arr_v v4
  obtain ⟨cc, A⟩ := Arr.start ev v4
  obtain ⟨q, e⟩ := Jvm.Free.IntBox.length_fwd w6 ev A.1 A.2.1 A.2.2
  refine ⟨Sta.start e1 (Or.inl w1), ca, cc, Sta.start ev (Or.inr ⟨wi, w2⟩), Bxs.start (fun idx => by simpa only [Term.eval] using ev) A q e (by decide) (Cond.before_iff.mp w7) (fun X j nn h => eqv_i ?_ h)⟩
  exact own_sub1 (idx_at nn)
theorem own_nsK {Z : State} {a0 : Array Value} {K : String} {n : Nat} (w1 : (Jvm.Cond.superclass "java/lang/Integer" "java/lang/Number").before a0 Z = true) (w2 : (Jvm.Cond.superclass "java/lang/Number" "java/lang/Object").before a0 Z = true) (w3 : (Jvm.Cond.noSuperclass "java/lang/Object").before a0 Z = true) (wk : (Jvm.Cond.instantiable K n).before a0 Z = true)
    (n1 : "java/lang/Object" ≠ K) (n2 : "java/lang/Number" ≠ K) (n3 : "java/lang/Integer" ≠ K) : ∃ c t, Z.vm.findClass "java/lang/Integer" = some c ∧ Z.vm.findClass K = some t ∧ Z.vm.assignable c t = false := by
  obtain ⟨t, k', g1, g2, g3, g4, -⟩ := Cond.instantiable_spec wk
  have hroot : NS Z "java/lang/Object" K := by
    obtain ⟨c, k, h1, h2, h3, -, -⟩ := Cond.noSuperclass_spec w3
    have ne := ids_ne h1 g1 n1
    refine ⟨c, t, h1, g1, fun fuel => ?_⟩
    cases fuel with
    | zero => rfl
    | succ f => simp [Vm.isSubclassAux, ne, h2, h3]
  obtain ⟨c, t', h0, g0, nn⟩ := NS.step w1 (NS.step w2 hroot n2) n3
  cases g1.symm.trans g0
  obtain ⟨p, k, kp, -, h2, -, -, h5, -, -⟩ := Cond.superclass_spec h0 w1
  have ne := ids_ne h0 g1 n3
  have g7 : k'.isInterface = false := by
    simp only [Bool.or_eq_false_iff] at g4
    exact g4.1
  refine ⟨c, t, h0, g1, ?_⟩
  show Z.vm.assignableAux (255 + 1) c t = false
  simp [Vm.assignableAux, ne, h2, g2, h5, g3, g7, Vm.isSubclass, nn]
theorem own_idx {p1 : Int32} (h1 : ¬ p1 < (-128 : Int32)) (h2 : ¬ (127 : Int32) < p1) : ¬ ((p1 + (128 : Int32)) < 0) ∧ (p1 + (128 : Int32)) < 256 := by
  rw [Int32.lt_iff_toInt_lt] at *
  have a := c_iadd p1 128
  have b := rng32 (p1 + 128)
  have l1 : (-128 : Int32).toInt = -128 := rfl
  have l2 : (127 : Int32).toInt = 127 := rfl
  have l3 : (128 : Int32).toInt = 128 := rfl
  have l4 : (0 : Int32).toInt = 0 := rfl
  have l5 : (256 : Int32).toInt = 256 := rfl
  rw [Int32.lt_iff_toInt_lt, l4, l5]
  rw [l1] at h1
  rw [l2] at h2
  rw [l3] at a
  omega
theorem own_nars (x : Int32) : nar .short (x.toInt16.toInt32) = x.toInt16.toInt32 := by simp [nar]
def own_pick (k : Int32) (aV aQ aK aR : Addr) : Addr := if k = 0 then aV else if k = 1 then aQ else if k = 2 then aK else aR
def own_eq4 (f l : Int64) (s : Addr) (d : Int32) (f' l' : Int64) (s' : Addr) (d' : Int32) : Int32 := if f = f' then (if l = l' then (if s = s' then (if d = d' then 1 else 0) else 0) else 0) else 0
theorem own_eq4s (f l : Int64) (s : Addr) (d : Int32) : own_eq4 f l s d f l s d = 1 := by rw [own_eq4, if_pos rfl, if_pos rfl, if_pos rfl, if_pos rfl]
theorem own_eq4c (f l : Int64) (s : Addr) (d : Int32) (f' l' : Int64) (s' : Addr) (d' : Int32) : own_eq4 f' l' s' d' f l s d = own_eq4 f l s d f' l' s' d' := by
  rw [own_eq4, own_eq4]
  by_cases h1 : f = f'
  · rw [if_pos h1, if_pos h1.symm]
    by_cases h2 : l = l'
    · rw [if_pos h2, if_pos h2.symm]
      by_cases h3 : s = s'
      · rw [if_pos h3, if_pos h3.symm]
        by_cases h4 : d = d'
        · rw [if_pos h4, if_pos h4.symm]
        · rw [if_neg h4, if_neg (fun q => h4 q.symm)]
      · rw [if_neg h3, if_neg (fun q => h3 q.symm)]
    · rw [if_neg h2, if_neg (fun q => h2 q.symm)]
  · rw [if_neg h1, if_neg (fun q => h1 q.symm)]
theorem d7_0 : decode jdk_18_method_1_code 0 = .ok (.aload_n 0, 1) := by decide +kernel
theorem d7_1 : decode jdk_18_method_1_code 1 = .ok (.invokespecial 1, 3) := by decide +kernel
theorem d7_4 : decode jdk_18_method_1_code 4 = .ok (.return_, 1) := by decide +kernel
theorem pn_0 : plainName "java/lang/Number" = true := by first | (simp [plainName, overriddenIn]; done) | decide +kernel
theorem ef_rmN (m : MethodId) (x0 : Addr) : entryFrame m #[(.ref x0)] 1 = mkF m 0 #[.val (.ref x0)] [] := by first | (simp [entryFrame, mkF, argsToLocals, Value.category]; done) | rfl
def QrmN (Z : State) (a1 : Addr) (h0 : Heap) (n0 : Nat) (v : Option Value) (h : Heap) (L : List Loc) : Prop := v = none ∧ Fr n0 L ∧ h = h0
set_option maxRecDepth 65536 in
set_option maxHeartbeats 40000000 in
theorem rmN (l : Launch) (Z : State) (a0 : Array Value) (hw : ∀ d ∈ tables_1, d.before a0 Z = true) (ws : List Jvm.Cond) (a1 : Addr) (h0 : Heap) (n0 : Nat) (Z0 : n0 ≤ h0.size) :
    MetFree l (⟨"java/lang/Number", "<init>", "()V"⟩ : MethodName) (head1 (Jvm.Cond.code (⟨"java/lang/Number", "<init>", "()V"⟩ : MethodName) jdk_18_method_1_code 1 none :: ws) ({ frames := 1, cells := 0, slots := 0, locals := 12 } : Room)) (fun a U => a = #[(.ref a1)] ∧ Z.Warmed39 U.vm ∧ U.heap = h0) (fun _ _ _ _ _ => True) (fun _ U o U' => ∃ v L, o = .returned v ∧ QrmN Z a1 h0 n0 v U'.heap L ∧ FrameEnd U o U' L ({ frames := 1, cells := 0, slots := 0, locals := 12 } : Room).cells ({ frames := 1, cells := 0, slots := 0, locals := 12 } : Room).slots) := by
  refine MetFree.of_bodySF (plainFor_of_name pn_0) hisR ?_
  intro p e s m args below meth c s₁ Bd hml0 hP hK
  obtain ⟨rfl, hZ, hh⟩ := hP
  have hx := Bd.exec
  have hby := Bd.bytes
  have hml : c.maxLocals = 1 := hml0
  have hown : s.vm.findClass "java/lang/Number" = some m.cls := findClass_of_methodNamed Bd.named
  have hnm := (name_of_methodNamed Bd.named Bd.method).1
  have X0 : Stand p l e ({ frames := 1, cells := 0, slots := 0, locals := 12 } : Room) s m #[(.ref a1)] below meth c s₁ [] 0 0 := Stand.of_body Bd
  have e0 : s₁.heap = h0 := by rw [← hh, Bd.state]; rfl
  have N0 := Fr.nil n0
  have pre0 : ∀ t_, Steps p.tables e below (s₁.setTop (mkF m 0 #[.val (.ref a1)] [])) t_ → Steps p.tables e below (s₁.setTop (entryFrame m #[(.ref a1)] 1)) t_ := fun t_ k_ => castTop (ef_rmN m a1) k_
  obtain ⟨T101, X101, e101, st101⟩ := initO X0 hx hZ hown (hw _ (List.mem_of_getElem? (i := 59) rfl)) (hw _ (List.mem_of_getElem? (i := 14) rfl)) (hw _ (List.mem_of_getElem? (i := 15) rfl)) e0 (g := (mkF m 1 #[.val (.ref a1)] [(.ref a1)])) rfl (by rw [hml]; rfl) rfl (hb hby d7_1) (by decide) (W := 0) (by show 2 * 0 + _ ≤ _; exact Nat.le_of_eq rfl) (by decide)
  have pre102 : ∀ t_, Steps p.tables e below (T101.setTop (mkF m 4 #[.val (.ref a1)] [])) t_ → Steps p.tables e below (s₁.setTop (entryFrame m #[(.ref a1)] 1)) t_ := fun t_ k_ => pre0 _ (by
    show Steps p.tables e below (s₁.setTop (mkF m 0 #[.val (.ref a1)] [])) _
    refine XS.aloadN X0.here hx rfl (hb hby d7_0) rfl rfl ?_
    show Steps p.tables e below (s₁.setTop (mkF m 1 #[.val (.ref a1)] [(.ref a1)])) _
    refine st101 _ ?_
    exact k_)
  obtain ⟨fs, hr, hrun, hended, hW, hsame⟩ := X101.leave (v := none) (fun _ => rfl)
  refine ⟨_, _, pre102 _ ?_, hrun, hended, _, _, rfl, ?_, ⟨_, rfl⟩, hW, hsame.mono (by decide) (by decide)⟩
  · show Steps p.tables e below (T101.setTop (mkF m 4 #[.val (.ref a1)] [])) _
    exact X101.returnOut hx Bd.returns (hb hby d7_4) hr
  · show QrmN Z a1 h0 n0 _ T101.heap _
    rw [e101]
    exact ⟨rfl, N0, rfl⟩
theorem pd_0 : parseMethodDescriptor "()V" = some ⟨[], none⟩ := by decide +kernel
theorem d6_0 : decode jdk_33_method_23_code 0 = .ok (.aload_n 0, 1) := by decide +kernel
theorem d6_1 : decode jdk_33_method_23_code 1 = .ok (.invokespecial 202, 3) := by decide +kernel
theorem d6_4 : decode jdk_33_method_23_code 4 = .ok (.aload_n 0, 1) := by decide +kernel
theorem d6_5 : decode jdk_33_method_23_code 5 = .ok (.iload_n 1, 1) := by decide +kernel
theorem d6_6 : decode jdk_33_method_23_code 6 = .ok (.putfield 205, 3) := by decide +kernel
theorem d6_9 : decode jdk_33_method_23_code 9 = .ok (.return_, 1) := by decide +kernel
theorem pn_1 : plainName "java/lang/Integer" = true := by first | (simp [plainName, overriddenIn]; done) | decide +kernel
theorem ef_rmI (m : MethodId) (x0 : Addr) (x1 : Int32) : entryFrame m #[(.ref x0), (.int x1)] 2 = mkF m 0 #[.val (.ref x0), .val (.int x1)] [] := by first | (simp [entryFrame, mkF, argsToLocals, Value.category]; done) | rfl
def QrmI (Z : State) (a1 : Addr) (p2 : Int32) (h0 : Heap) (n0 : Nat) (v : Option Value) (h : Heap) (L : List Loc) : Prop := v = none ∧ Fr n0 L ∧ Keep h0 h [a1] ∧ Exa Z h a1 "java/lang/Integer"
set_option maxRecDepth 65536 in
set_option maxHeartbeats 40000000 in
theorem rmI (l : Launch) (Z : State) (a0 : Array Value) (hw : ∀ d ∈ tables_1, d.before a0 Z = true) (ws : List Jvm.Cond) (a1 : Addr) (p2 : Int32) (h0 : Heap) (n0 : Nat) (Z0 : n0 ≤ h0.size) (E_o : Exa Z h0 a1 "java/lang/Integer") (F_o : Fld Z h0 a1 "java/lang/Integer" "value" "I" (.int (0 : Int32))) (g_a1 : n0 ≤ a1) :
    MetFree l (⟨"java/lang/Integer", "<init>", "(I)V"⟩ : MethodName) (head1 (Jvm.Cond.code (⟨"java/lang/Integer", "<init>", "(I)V"⟩ : MethodName) jdk_33_method_23_code 2 none :: ws) ({ frames := 2, cells := 0, slots := 0, locals := 24 } : Room)) (fun a U => a = #[(.ref a1), (.int p2)] ∧ Z.Warmed39 U.vm ∧ U.heap = h0) (fun _ _ _ _ _ => True) (fun _ U o U' => ∃ v L, o = .returned v ∧ QrmI Z a1 p2 h0 n0 v U'.heap L ∧ FrameEnd U o U' L ({ frames := 2, cells := 0, slots := 0, locals := 24 } : Room).cells ({ frames := 2, cells := 0, slots := 0, locals := 24 } : Room).slots) := by
  refine MetFree.of_bodySF (plainFor_of_name pn_1) hisR ?_
  intro p e s m args below meth c s₁ Bd hml0 hP hK
  obtain ⟨rfl, hZ, hh⟩ := hP
  have hx := Bd.exec
  have hby := Bd.bytes
  have hml : c.maxLocals = 2 := hml0
  have hown : s.vm.findClass "java/lang/Integer" = some m.cls := findClass_of_methodNamed Bd.named
  have hnm := (name_of_methodNamed Bd.named Bd.method).1
  have X0 : Stand p l e ({ frames := 2, cells := 0, slots := 0, locals := 24 } : Room) s m #[(.ref a1), (.int p2)] below meth c s₁ [] 0 0 := Stand.of_body Bd
  have e0 : s₁.heap = h0 := by rw [← hh, Bd.state]; rfl
  have N0 := Fr.nil n0
  have pre0 : ∀ t_, Steps p.tables e below (s₁.setTop (mkF m 0 #[.val (.ref a1), .val (.int p2)] [])) t_ → Steps p.tables e below (s₁.setTop (entryFrame m #[(.ref a1), (.int p2)] 2)) t_ := fun t_ k_ => castTop (ef_rmI m a1 p2) k_
  obtain ⟨_, _, ⟨T101, L101, k101, n101⟩, -, X101, ⟨Lc101, hQ101, l101, y101, z101⟩, st101⟩ := X0.specialBack hx (y := (⟨"java/lang/Number", "<init>", "()V"⟩ : MethodName)) rfl hown (mvT hZ (hw _ (List.mem_of_getElem? (i := 53) rfl))) (mvT hZ (hw _ (List.mem_of_getElem? (i := 54) rfl))) (mvT hZ (hw _ (List.mem_of_getElem? (i := 58) rfl))) (by decide) (backOf (W := 0) (rmN l Z a0 hw [] a1 h0 n0 Z0 ) hZ (hw _ (List.mem_of_getElem? (i := 58) rfl)) (hw _ (List.mem_of_getElem? (i := 57) rfl)) (by decide) (by decide)) (g := (mkF m 1 #[.val (.ref a1), .val (.int p2)] [(.ref a1)])) rfl (by rw [hml]; rfl) (Steps.refl _) (a := a1) (argsL := []) (rest := []) (lenOf pd_0 rfl) rfl (by show 2 * 0 + _ ≤ _; exact Nat.le_of_eq rfl) (hb hby d6_1) (fun _ _ => ⟨rfl, e0, (by decide : 0 + 0 ≤ _), (by decide : 0 + 0 ≤ _)⟩)
  dsimp only [Pt.U, Pt.locs, Pt.cells, Pt.slots] at X101 l101 y101 z101 st101 hQ101
  subst l101 y101 z101
  obtain ⟨rfl, N101q, e101⟩ := hQ101
  have N101 := Fr.app N0 N101q
  obtain ⟨T102, h102, X102, e102, W102, st102⟩ := putF X101 hx hZ hown (host := "") (Or.inl (hw _ (List.mem_of_getElem? (i := 60) rfl))) Via.refl e101 F_o E_o (Or.inr ⟨(hw _ (List.mem_of_getElem? (i := 61) rfl)), rfl, hnm⟩) (hw _ (List.mem_of_getElem? (i := 48) rfl)) (ty := .int) (by decide) rfl rfl (g := (mkF m 6 #[.val (.ref a1), .val (.int p2)] [(.int p2), (.ref a1)])) rfl rfl (hb hby d6_6)
  have E_103 := E_o.wr W102
  have K_104 := (Keep.refl h0 [a1]).wr W102 (Or.inl (List.mem_of_getElem? (i := 0) rfl))
  have F_105 := F_o.same W102
  have N102 := Fr.snoc X102 N101 g_a1
  have Z106 : n0 ≤ h102.size := Nat.le_trans Z0 ((Keep.of_wr W102).1)
  have pre107 : ∀ t_, Steps p.tables e below (T102.setTop (mkF m 9 #[.val (.ref a1), .val (.int p2)] [])) t_ → Steps p.tables e below (s₁.setTop (entryFrame m #[(.ref a1), (.int p2)] 2)) t_ := fun t_ k_ => pre0 _ (by
    show Steps p.tables e below (s₁.setTop (mkF m 0 #[.val (.ref a1), .val (.int p2)] [])) _
    refine XS.aloadN X0.here hx rfl (hb hby d6_0) rfl rfl ?_
    show Steps p.tables e below (s₁.setTop (mkF m 1 #[.val (.ref a1), .val (.int p2)] [(.ref a1)])) _
    refine st101.trans ?_
    show Steps p.tables e below (T101.setTop (mkF m 4 #[.val (.ref a1), .val (.int p2)] [])) _
    refine XS.aloadN X101.here hx rfl (hb hby d6_4) rfl rfl ?_
    show Steps p.tables e below (T101.setTop (mkF m 5 #[.val (.ref a1), .val (.int p2)] [(.ref a1)])) _
    refine XS.iloadN X101.here hx rfl (hb hby d6_5) rfl ?_
    show Steps p.tables e below (T101.setTop (mkF m 6 #[.val (.ref a1), .val (.int p2)] [(.int p2), (.ref a1)])) _
    refine st102 _ ?_
    exact k_)
  obtain ⟨fs, hr, hrun, hended, hW, hsame⟩ := X102.leave (v := none) (fun _ => rfl)
  refine ⟨_, _, pre107 _ ?_, hrun, hended, _, _, rfl, ?_, ⟨_, rfl⟩, hW, hsame.mono (by decide) (by decide)⟩
  · show Steps p.tables e below (T102.setTop (mkF m 9 #[.val (.ref a1), .val (.int p2)] [])) _
    exact X102.returnOut hx Bd.returns (hb hby d6_9) hr
  · show QrmI Z a1 p2 h0 n0 _ T102.heap _
    rw [e102]
    exact ⟨rfl, N102, K_104, E_103⟩
theorem pd_1 : parseMethodDescriptor "(I)V" = some ⟨[.int], none⟩ := by decide +kernel
theorem d5_0 : decode jdk_33_method_22_code 0 = .ok (.iload_n 0, 1) := by decide +kernel
theorem d5_1 : decode jdk_33_method_22_code 1 = .ok (.bipush (-128), 2) := by decide +kernel
theorem d5_3 : decode jdk_33_method_22_code 3 = .ok (.if_icmp .lt 20, 3) := by decide +kernel
theorem d5_6 : decode jdk_33_method_22_code 6 = .ok (.iload_n 0, 1) := by decide +kernel
theorem d5_7 : decode jdk_33_method_22_code 7 = .ok (.getstatic 191, 3) := by decide +kernel
theorem d5_10 : decode jdk_33_method_22_code 10 = .ok (.if_icmp .gt 13, 3) := by decide +kernel
theorem d5_13 : decode jdk_33_method_22_code 13 = .ok (.getstatic 195, 3) := by decide +kernel
theorem d5_16 : decode jdk_33_method_22_code 16 = .ok (.iload_n 0, 1) := by decide +kernel
theorem d5_17 : decode jdk_33_method_22_code 17 = .ok (.sipush 128, 3) := by decide +kernel
theorem d5_20 : decode jdk_33_method_22_code 20 = .ok (.iadd, 1) := by decide +kernel
theorem d5_21 : decode jdk_33_method_22_code 21 = .ok (.aaload, 1) := by decide +kernel
theorem d5_22 : decode jdk_33_method_22_code 22 = .ok (.areturn, 1) := by decide +kernel
theorem d5_23 : decode jdk_33_method_22_code 23 = .ok (.new 1, 3) := by decide +kernel
theorem d5_26 : decode jdk_33_method_22_code 26 = .ok (.dup, 1) := by decide +kernel
theorem d5_27 : decode jdk_33_method_22_code 27 = .ok (.iload_n 0, 1) := by decide +kernel
theorem d5_28 : decode jdk_33_method_22_code 28 = .ok (.invokespecial 199, 3) := by decide +kernel
theorem d5_31 : decode jdk_33_method_22_code 31 = .ok (.areturn, 1) := by decide +kernel
theorem ef_rmV (m : MethodId) (x0 : Int32) : entryFrame m #[(.int x0)] 1 = mkF m 0 #[.val (.int x0)] [] := by first | (simp [entryFrame, mkF, argsToLocals, Value.category]; done) | rfl
def QrmV (Z : State) (p1 : Int32) (ca : Addr) (cc : Cell) (h0 : Heap) (n0 : Nat) (v : Option Value) (h : Heap) (L : List Loc) : Prop := ∃ b : Addr, v = some (.ref b) ∧ Fr n0 L ∧ Keep h0 h [] ∧ Exa Z h b "java/lang/Integer"
set_option maxRecDepth 65536 in
set_option maxHeartbeats 40000000 in
theorem rmV (l : Launch) (Z : State) (a0 : Array Value) (hw : ∀ d ∈ tables_1, d.before a0 Z = true) (ws : List Jvm.Cond) (p1 : Int32) (ca : Addr) (cc : Cell) (h0 : Heap) (n0 : Nat) (Z0 : n0 ≤ h0.size) (O : Old Z n0 h0) (S_high : Sta Z Z.heap "java/lang/Integer$IntegerCache" "high" "I" (.int (127 : Int32))) (S_cache : Sta Z Z.heap "java/lang/Integer$IntegerCache" "cache" "[Ljava/lang/Integer;" (.ref ca)) (B_c : Bxs Z ca cc "java/lang/Integer" "I" 256 (fun j => .int (j - 128))) :
    MetFree l (⟨"java/lang/Integer", "valueOf", "(I)Ljava/lang/Integer;"⟩ : MethodName) (head1 (Jvm.Cond.code (⟨"java/lang/Integer", "valueOf", "(I)Ljava/lang/Integer;"⟩ : MethodName) jdk_33_method_22_code 1 (some (.object "java/lang/Integer")) :: ws) ({ frames := 3, cells := 1, slots := 1, locals := 38 } : Room)) (fun a U => a = #[(.int p1)] ∧ Z.Warmed39 U.vm ∧ U.heap = h0) (fun _ _ _ _ _ => True) (fun _ U o U' => ∃ v L, o = .returned v ∧ QrmV Z p1 ca cc h0 n0 v U'.heap L ∧ FrameEnd U o U' L ({ frames := 3, cells := 1, slots := 1, locals := 38 } : Room).cells ({ frames := 3, cells := 1, slots := 1, locals := 38 } : Room).slots) := by
  refine MetFree.of_bodySF (plainFor_of_name pn_1) hisR ?_
  intro p e s m args below meth c s₁ Bd hml0 hP hK
  obtain ⟨rfl, hZ, hh⟩ := hP
  have hx := Bd.exec
  have hby := Bd.bytes
  have hml : c.maxLocals = 1 := hml0
  have hown : s.vm.findClass "java/lang/Integer" = some m.cls := findClass_of_methodNamed Bd.named
  have hnm := (name_of_methodNamed Bd.named Bd.method).1
  have X0 : Stand p l e ({ frames := 3, cells := 1, slots := 1, locals := 38 } : Room) s m #[(.int p1)] below meth c s₁ [] 0 0 := Stand.of_body Bd
  have e0 : s₁.heap = h0 := by rw [← hh, Bd.state]; rfl
  have N0 := Fr.nil n0
  have pre0 : ∀ t_, Steps p.tables e below (s₁.setTop (mkF m 0 #[.val (.int p1)] [])) t_ → Steps p.tables e below (s₁.setTop (entryFrame m #[(.int p1)] 1)) t_ := fun t_ k_ => castTop (ef_rmV m p1) k_
  have pre101 : ∀ t_, Steps p.tables e below (s₁.setTop (mkF m 3 #[.val (.int p1)] [(.int (-128 : Int32)), (.int p1)])) t_ → Steps p.tables e below (s₁.setTop (entryFrame m #[(.int p1)] 1)) t_ := fun t_ k_ => pre0 _ (by
    show Steps p.tables e below (s₁.setTop (mkF m 0 #[.val (.int p1)] [])) _
    refine XS.iloadN X0.here hx rfl (hb hby d5_0) rfl ?_
    show Steps p.tables e below (s₁.setTop (mkF m 1 #[.val (.int p1)] [(.int p1)])) _
    refine XS.bipush X0.here hx rfl (hb hby d5_1) ?_
    exact k_)
  by_cases hc1 : p1 < (-128 : Int32)
  · skip
    obtain ⟨T102, h102, X102, e102, Ext_b, E_b, D_b, -, st102⟩ := newO X0 hx hZ hown (hw _ (List.mem_of_getElem? (i := 47) rfl)) (hw _ (List.mem_of_getElem? (i := 48) rfl)) (hw _ (List.mem_of_getElem? (i := 33) rfl)) e0 (g := (mkF m 23 #[.val (.int p1)] [])) rfl (hb hby d5_23) (by decide) (by decide)
    obtain ⟨b, eq_b⟩ : ∃ z, z = h0.size := ⟨_, rfl⟩
    rw [← eq_b] at E_b D_b st102
    have g_b : n0 ≤ b := Nat.le_trans Z0 (Nat.le_of_eq eq_b.symm)
    have Z103 : n0 ≤ h102.size := Nat.le_trans Z0 (Ext_b.1)
    have F_b : Fld Z h102 b "java/lang/Integer" "value" "I" (.int (0 : Int32)) := D_b (Or.inr (hw _ (List.mem_of_getElem? (i := 61) rfl))) (ty := .int) (by decide)
    obtain ⟨_, _, ⟨T104, L104, k104, n104⟩, -, X104, ⟨Lc104, hQ104, l104, y104, z104⟩, st104⟩ := X102.specialBack hx (y := (⟨"java/lang/Integer", "<init>", "(I)V"⟩ : MethodName)) rfl hown (mvT hZ (hw _ (List.mem_of_getElem? (i := 49) rfl))) (mvT hZ (hw _ (List.mem_of_getElem? (i := 50) rfl))) (mvT hZ (hw _ (List.mem_of_getElem? (i := 52) rfl))) (by decide) (backOf (W := 1) (rmI l Z a0 hw [] b p1 h102 n0 Z103 E_b F_b g_b) hZ (hw _ (List.mem_of_getElem? (i := 52) rfl)) (hw _ (List.mem_of_getElem? (i := 33) rfl)) (by decide) (by decide)) (g := (mkF m 28 #[.val (.int p1)] [(.int p1), (.ref b), (.ref b)])) rfl (by rw [hml]; rfl) (Steps.refl _) (a := b) (argsL := [(.int p1)]) (rest := [(.ref b)]) (lenOf pd_1 rfl) rfl (by show 2 * 0 + _ ≤ _; exact Nat.le_of_eq rfl) (hb hby d5_28) (fun _ _ => ⟨rfl, e102, (by decide : 1 + 0 ≤ _), (by decide : 1 + 0 ≤ _)⟩)
    dsimp only [Pt.U, Pt.locs, Pt.cells, Pt.slots] at X104 l104 y104 z104 st104 hQ104
    subst l104 y104 z104
    obtain ⟨rfl, N104q, K104, E104⟩ := hQ104
    have N104 := Fr.app N0 N104q
    have pre105 : ∀ t_, Steps p.tables e below (T104.setTop (mkF m 31 #[.val (.int p1)] [(.ref b)])) t_ → Steps p.tables e below (s₁.setTop (entryFrame m #[(.int p1)] 1)) t_ := fun t_ k_ => pre101 _ (by
      show Steps p.tables e below (s₁.setTop (mkF m 3 #[.val (.int p1)] [(.int (-128 : Int32)), (.int p1)])) _
      refine XS.icmpYes X0.here hx rfl (pc0 := 3) (pc' := 23) rfl (hb hby d5_3) rfl (tlt hc1).1 (by decide) (by decide) ?_
      show Steps p.tables e below (s₁.setTop (mkF m 23 #[.val (.int p1)] [])) _
      refine st102 _ ?_
      show Steps p.tables e below (T102.setTop (mkF m 26 #[.val (.int p1)] [(.ref b)])) _
      refine XS.dup X102.here hx rfl (hb hby d5_26) rfl rfl ?_
      show Steps p.tables e below (T102.setTop (mkF m 27 #[.val (.int p1)] [(.ref b), (.ref b)])) _
      refine XS.iloadN X102.here hx rfl (hb hby d5_27) rfl ?_
      show Steps p.tables e below (T102.setTop (mkF m 28 #[.val (.int p1)] [(.int p1), (.ref b), (.ref b)])) _
      refine st104.trans ?_
      exact k_)
    obtain ⟨fs, hr, hrun, hended, hW, hsame⟩ := X104.leave (v := some (.ref b)) (fun h => by rw [Bd.returns] at h; cases h)
    refine ⟨_, _, pre105 _ ?_, hrun, hended, _, _, rfl, ?_, ⟨_, rfl⟩, hW, hsame.mono (by decide) (by decide)⟩
    · show Steps p.tables e below (T104.setTop (mkF m 31 #[.val (.int p1)] [(.ref b)])) _
      jvm_step X104.here [X104.here.top, hx, (hb hby d5_31), X104.method', Bd.returns, Value.isRef, FieldType.isReference]
      first | (intro acts; rw [hr _ acts rfl rfl rfl]) | rw [hr _ _ rfl rfl rfl]
      exact Steps.refl _
    · show QrmV Z p1 ca cc h0 n0 _ T104.heap _
      exact ⟨b, rfl, N104, ((Keep.refl h0 []).ext Ext_b).trans K104 (allS (Or.inr (Nat.le_of_eq eq_b.symm)) all0), E104⟩
  · skip
    obtain ⟨T106, X106, e106, st106⟩ := getS2 X0 hx hZ hown (host := "") (Or.inl (hw _ (List.mem_of_getElem? (i := 35) rfl))) Via.refl e0 (S_high.ext O.2) (g := (mkF m 7 #[.val (.int p1)] [(.int p1)])) rfl (hb hby d5_7)
    have pre107 : ∀ t_, Steps p.tables e below (T106.setTop (mkF m 10 #[.val (.int p1)] [(.int (127 : Int32)), (.int p1)])) t_ → Steps p.tables e below (s₁.setTop (entryFrame m #[(.int p1)] 1)) t_ := fun t_ k_ => pre101 _ (by
      show Steps p.tables e below (s₁.setTop (mkF m 3 #[.val (.int p1)] [(.int (-128 : Int32)), (.int p1)])) _
      refine XS.icmpNo X0.here hx rfl (hb hby d5_3) rfl (flt hc1).1 ?_
      show Steps p.tables e below (s₁.setTop (mkF m 6 #[.val (.int p1)] [])) _
      refine XS.iloadN X0.here hx rfl (hb hby d5_6) rfl ?_
      show Steps p.tables e below (s₁.setTop (mkF m 7 #[.val (.int p1)] [(.int p1)])) _
      refine st106 _ ?_
      exact k_)
    by_cases hc2 : (127 : Int32) < p1
    · skip
      obtain ⟨T108, h108, X108, e108, Ext_b, E_b, D_b, -, st108⟩ := newO X106 hx hZ hown (hw _ (List.mem_of_getElem? (i := 47) rfl)) (hw _ (List.mem_of_getElem? (i := 48) rfl)) (hw _ (List.mem_of_getElem? (i := 33) rfl)) e106 (g := (mkF m 23 #[.val (.int p1)] [])) rfl (hb hby d5_23) (by decide) (by decide)
      obtain ⟨b, eq_b⟩ : ∃ z, z = h0.size := ⟨_, rfl⟩
      rw [← eq_b] at E_b D_b st108
      have g_b : n0 ≤ b := Nat.le_trans Z0 (Nat.le_of_eq eq_b.symm)
      have Z109 : n0 ≤ h108.size := Nat.le_trans Z0 (Ext_b.1)
      have F_b : Fld Z h108 b "java/lang/Integer" "value" "I" (.int (0 : Int32)) := D_b (Or.inr (hw _ (List.mem_of_getElem? (i := 61) rfl))) (ty := .int) (by decide)
      obtain ⟨_, _, ⟨T110, L110, k110, n110⟩, -, X110, ⟨Lc110, hQ110, l110, y110, z110⟩, st110⟩ := X108.specialBack hx (y := (⟨"java/lang/Integer", "<init>", "(I)V"⟩ : MethodName)) rfl hown (mvT hZ (hw _ (List.mem_of_getElem? (i := 49) rfl))) (mvT hZ (hw _ (List.mem_of_getElem? (i := 50) rfl))) (mvT hZ (hw _ (List.mem_of_getElem? (i := 52) rfl))) (by decide) (backOf (W := 1) (rmI l Z a0 hw [] b p1 h108 n0 Z109 E_b F_b g_b) hZ (hw _ (List.mem_of_getElem? (i := 52) rfl)) (hw _ (List.mem_of_getElem? (i := 33) rfl)) (by decide) (by decide)) (g := (mkF m 28 #[.val (.int p1)] [(.int p1), (.ref b), (.ref b)])) rfl (by rw [hml]; rfl) (Steps.refl _) (a := b) (argsL := [(.int p1)]) (rest := [(.ref b)]) (lenOf pd_1 rfl) rfl (by show 2 * 0 + _ ≤ _; exact Nat.le_of_eq rfl) (hb hby d5_28) (fun _ _ => ⟨rfl, e108, (by decide : 1 + 0 ≤ _), (by decide : 1 + 0 ≤ _)⟩)
      dsimp only [Pt.U, Pt.locs, Pt.cells, Pt.slots] at X110 l110 y110 z110 st110 hQ110
      subst l110 y110 z110
      obtain ⟨rfl, N110q, K110, E110⟩ := hQ110
      have N110 := Fr.app N0 N110q
      have pre111 : ∀ t_, Steps p.tables e below (T110.setTop (mkF m 31 #[.val (.int p1)] [(.ref b)])) t_ → Steps p.tables e below (s₁.setTop (entryFrame m #[(.int p1)] 1)) t_ := fun t_ k_ => pre107 _ (by
        show Steps p.tables e below (T106.setTop (mkF m 10 #[.val (.int p1)] [(.int (127 : Int32)), (.int p1)])) _
        refine XS.icmpYes X106.here hx rfl (pc0 := 10) (pc' := 23) rfl (hb hby d5_10) rfl (tlt hc2).2.2.1 (by decide) (by decide) ?_
        show Steps p.tables e below (T106.setTop (mkF m 23 #[.val (.int p1)] [])) _
        refine st108 _ ?_
        show Steps p.tables e below (T108.setTop (mkF m 26 #[.val (.int p1)] [(.ref b)])) _
        refine XS.dup X108.here hx rfl (hb hby d5_26) rfl rfl ?_
        show Steps p.tables e below (T108.setTop (mkF m 27 #[.val (.int p1)] [(.ref b), (.ref b)])) _
        refine XS.iloadN X108.here hx rfl (hb hby d5_27) rfl ?_
        show Steps p.tables e below (T108.setTop (mkF m 28 #[.val (.int p1)] [(.int p1), (.ref b), (.ref b)])) _
        refine st110.trans ?_
        exact k_)
      obtain ⟨fs, hr, hrun, hended, hW, hsame⟩ := X110.leave (v := some (.ref b)) (fun h => by rw [Bd.returns] at h; cases h)
      refine ⟨_, _, pre111 _ ?_, hrun, hended, _, _, rfl, ?_, ⟨_, rfl⟩, hW, hsame.mono (by decide) (by decide)⟩
      · show Steps p.tables e below (T110.setTop (mkF m 31 #[.val (.int p1)] [(.ref b)])) _
        jvm_step X110.here [X110.here.top, hx, (hb hby d5_31), X110.method', Bd.returns, Value.isRef, FieldType.isReference]
        first | (intro acts; rw [hr _ acts rfl rfl rfl]) | rw [hr _ _ rfl rfl rfl]
        exact Steps.refl _
      · show QrmV Z p1 ca cc h0 n0 _ T110.heap _
        exact ⟨b, rfl, N110, ((Keep.refl h0 []).ext Ext_b).trans K110 (allS (Or.inr (Nat.le_of_eq eq_b.symm)) all0), E110⟩
    · skip
      obtain ⟨T112, X112, e112, st112⟩ := getS2 X106 hx hZ hown (host := "") (Or.inl (hw _ (List.mem_of_getElem? (i := 37) rfl))) Via.refl e106 (S_cache.ext O.2) (g := (mkF m 13 #[.val (.int p1)] [])) rfl (hb hby d5_13)
      obtain ⟨A_c, Sz, Ng⟩ := B_c.ext O.2
      have hin : ¬ ((p1 + (128 : Int32)) < 0 ∨ cc.slots.size ≤ (p1 + (128 : Int32)).toNatClampNeg) := inb_of Sz (own_idx hc1 hc2)
      obtain ⟨bx, hat, E_bx, -⟩ := B_c.2.2.2 _ hin
      have pre113 : ∀ t_, Steps p.tables e below (T112.setTop (mkF m 22 #[.val (.int p1)] [(.ref bx)])) t_ → Steps p.tables e below (s₁.setTop (entryFrame m #[(.int p1)] 1)) t_ := fun t_ k_ => pre107 _ (by
        show Steps p.tables e below (T106.setTop (mkF m 10 #[.val (.int p1)] [(.int (127 : Int32)), (.int p1)])) _
        refine XS.icmpNo X106.here hx rfl (hb hby d5_10) rfl (flt hc2).2.2.1 ?_
        show Steps p.tables e below (T106.setTop (mkF m 13 #[.val (.int p1)] [])) _
        refine st112 _ ?_
        show Steps p.tables e below (T112.setTop (mkF m 16 #[.val (.int p1)] [(.ref ca)])) _
        refine XS.iloadN X112.here hx rfl (hb hby d5_16) rfl ?_
        show Steps p.tables e below (T112.setTop (mkF m 17 #[.val (.int p1)] [(.int p1), (.ref ca)])) _
        refine XS.sipush X112.here hx rfl (hb hby d5_17) ?_
        show Steps p.tables e below (T112.setTop (mkF m 20 #[.val (.int p1)] [(.int (128 : Int32)), (.int p1), (.ref ca)])) _
        refine XS.iadd X112.here hx rfl (hb hby d5_20) rfl ?_
        show Steps p.tables e below (T112.setTop (mkF m 21 #[.val (.int p1)] [(.int (p1 + (128 : Int32))), (.ref ca)])) _
        refine X112.aaload hx (j := (p1 + (128 : Int32))) (v := (.ref bx)) (by rw [e112]; exact A_c.1) (State.isArrayOf_alike hZ.alike A_c.2.1) rfl A_c.2.2 hin hat (g := (mkF m 21 #[.val (.int p1)] [(.int (p1 + (128 : Int32))), (.ref ca)])) rfl rfl (hb hby d5_21) _ ?_
        exact k_)
      obtain ⟨fs, hr, hrun, hended, hW, hsame⟩ := X112.leave (v := some (.ref bx)) (fun h => by rw [Bd.returns] at h; cases h)
      refine ⟨_, _, pre113 _ ?_, hrun, hended, _, _, rfl, ?_, ⟨_, rfl⟩, hW, hsame.mono (by decide) (by decide)⟩
      · show Steps p.tables e below (T112.setTop (mkF m 22 #[.val (.int p1)] [(.ref bx)])) _
        jvm_step X112.here [X112.here.top, hx, (hb hby d5_22), X112.method', Bd.returns, Value.isRef, FieldType.isReference]
        first | (intro acts; rw [hr _ acts rfl rfl rfl]) | rw [hr _ _ rfl rfl rfl]
        exact Steps.refl _
      · show QrmV Z p1 ca cc h0 n0 _ T112.heap _
        rw [e112]
        exact ⟨bx, rfl, N0, Keep.refl _ _, E_bx.ext O.2⟩
theorem d1_0 : decode method_2_code 0 = .ok (.iload_n 0, 1) := by decide +kernel
theorem d1_1 : decode method_2_code 1 = .ok (.ifCond .ne 7, 3) := by decide +kernel
theorem d1_4 : decode method_2_code 4 = .ok (.getstatic 7, 3) := by decide +kernel
theorem d1_7 : decode method_2_code 7 = .ok (.areturn, 1) := by decide +kernel
theorem d1_8 : decode method_2_code 8 = .ok (.iload_n 0, 1) := by decide +kernel
theorem d1_9 : decode method_2_code 9 = .ok (.iconst 1, 1) := by decide +kernel
theorem d1_10 : decode method_2_code 10 = .ok (.if_icmp .ne 7, 3) := by decide +kernel
theorem d1_13 : decode method_2_code 13 = .ok (.getstatic 13, 3) := by decide +kernel
theorem d1_16 : decode method_2_code 16 = .ok (.areturn, 1) := by decide +kernel
theorem d1_17 : decode method_2_code 17 = .ok (.iload_n 0, 1) := by decide +kernel
theorem d1_18 : decode method_2_code 18 = .ok (.iconst 2, 1) := by decide +kernel
theorem d1_19 : decode method_2_code 19 = .ok (.if_icmp .ne 7, 3) := by decide +kernel
theorem d1_22 : decode method_2_code 22 = .ok (.getstatic 16, 3) := by decide +kernel
theorem d1_25 : decode method_2_code 25 = .ok (.areturn, 1) := by decide +kernel
theorem d1_26 : decode method_2_code 26 = .ok (.getstatic 19, 3) := by decide +kernel
theorem d1_29 : decode method_2_code 29 = .ok (.areturn, 1) := by decide +kernel
theorem pn_2 : plainName "com/example/termite/termite/broker/RangeEqualsPinLaw" = true := by first | (simp [plainName, overriddenIn]; done) | decide +kernel
theorem ef_rmP (m : MethodId) (x0 : Int32) : entryFrame m #[(.int x0)] 1 = mkF m 0 #[.val (.int x0)] [] := by first | (simp [entryFrame, mkF, argsToLocals, Value.category]; done) | rfl
def QrmP (Z : State) (p1 : Int32) (aV : Addr) (aQ : Addr) (aK : Addr) (aR : Addr) (h0 : Heap) (n0 : Nat) (v : Option Value) (h : Heap) (L : List Loc) : Prop := v = some (.ref (own_pick p1 aV aQ aK aR)) ∧ Fr n0 L ∧ h = h0
set_option maxRecDepth 65536 in
set_option maxHeartbeats 40000000 in
theorem rmP (l : Launch) (Z : State) (a0 : Array Value) (hw : ∀ d ∈ tables_1, d.before a0 Z = true) (ws : List Jvm.Cond) (p1 : Int32) (aV : Addr) (aQ : Addr) (aK : Addr) (aR : Addr) (h0 : Heap) (n0 : Nat) (Z0 : n0 ≤ h0.size) (S_V : Sta Z h0 "com/example/termite/termite/broker/RecordState" "AVAILABLE" "Lcom/example/termite/termite/broker/RecordState;" (.ref aV)) (S_Q : Sta Z h0 "com/example/termite/termite/broker/RecordState" "ACQUIRED" "Lcom/example/termite/termite/broker/RecordState;" (.ref aQ)) (S_K : Sta Z h0 "com/example/termite/termite/broker/RecordState" "ACKNOWLEDGED" "Lcom/example/termite/termite/broker/RecordState;" (.ref aK)) (S_R : Sta Z h0 "com/example/termite/termite/broker/RecordState" "ARCHIVED" "Lcom/example/termite/termite/broker/RecordState;" (.ref aR)) :
    MetFree l (⟨"com/example/termite/termite/broker/RangeEqualsPinLaw", "pick", "(I)Lcom/example/termite/termite/broker/RecordState;"⟩ : MethodName) (head1 (Jvm.Cond.code (⟨"com/example/termite/termite/broker/RangeEqualsPinLaw", "pick", "(I)Lcom/example/termite/termite/broker/RecordState;"⟩ : MethodName) method_2_code 1 (some (.object "com/example/termite/termite/broker/RecordState")) :: ws) ({ frames := 0, cells := 0, slots := 0, locals := 0 } : Room)) (fun a U => a = #[(.int p1)] ∧ Z.Warmed39 U.vm ∧ U.heap = h0) (fun _ _ _ _ _ => True) (fun _ U o U' => ∃ v L, o = .returned v ∧ QrmP Z p1 aV aQ aK aR h0 n0 v U'.heap L ∧ FrameEnd U o U' L ({ frames := 0, cells := 0, slots := 0, locals := 0 } : Room).cells ({ frames := 0, cells := 0, slots := 0, locals := 0 } : Room).slots) := by
  refine MetFree.of_bodySF (plainFor_of_name pn_2) hisR ?_
  intro p e s m args below meth c s₁ Bd hml0 hP hK
  obtain ⟨rfl, hZ, hh⟩ := hP
  have hx := Bd.exec
  have hby := Bd.bytes
  have hml : c.maxLocals = 1 := hml0
  have hown : s.vm.findClass "com/example/termite/termite/broker/RangeEqualsPinLaw" = some m.cls := findClass_of_methodNamed Bd.named
  have hnm := (name_of_methodNamed Bd.named Bd.method).1
  have X0 : Stand p l e ({ frames := 0, cells := 0, slots := 0, locals := 0 } : Room) s m #[(.int p1)] below meth c s₁ [] 0 0 := Stand.of_body Bd
  have e0 : s₁.heap = h0 := by rw [← hh, Bd.state]; rfl
  have N0 := Fr.nil n0
  have pre0 : ∀ t_, Steps p.tables e below (s₁.setTop (mkF m 0 #[.val (.int p1)] [])) t_ → Steps p.tables e below (s₁.setTop (entryFrame m #[(.int p1)] 1)) t_ := fun t_ k_ => castTop (ef_rmP m p1) k_
  have pre101 : ∀ t_, Steps p.tables e below (s₁.setTop (mkF m 1 #[.val (.int p1)] [(.int p1)])) t_ → Steps p.tables e below (s₁.setTop (entryFrame m #[(.int p1)] 1)) t_ := fun t_ k_ => pre0 _ (by
    show Steps p.tables e below (s₁.setTop (mkF m 0 #[.val (.int p1)] [])) _
    refine XS.iloadN X0.here hx rfl (hb hby d1_0) rfl ?_
    exact k_)
  by_cases hc0 : p1 = (0 : Int32)
  · skip
    obtain ⟨T102, X102, e102, st102⟩ := getS2 X0 hx hZ hown (host := "") (Or.inl (hw _ (List.mem_of_getElem? (i := 4) rfl))) Via.refl e0 S_V (g := (mkF m 4 #[.val (.int p1)] [])) rfl (hb hby d1_4)
    have pre103 : ∀ t_, Steps p.tables e below (T102.setTop (mkF m 7 #[.val (.int p1)] [(.ref aV)])) t_ → Steps p.tables e below (s₁.setTop (entryFrame m #[(.int p1)] 1)) t_ := fun t_ k_ => pre101 _ (by
      show Steps p.tables e below (s₁.setTop (mkF m 1 #[.val (.int p1)] [(.int p1)])) _
      refine XS.ifNo X0.here hx rfl (hb hby d1_1) rfl ((if0 _ _).trans (teq hc0).2) ?_
      show Steps p.tables e below (s₁.setTop (mkF m 4 #[.val (.int p1)] [])) _
      refine st102 _ ?_
      exact k_)
    obtain ⟨fs, hr, hrun, hended, hW, hsame⟩ := X102.leave (v := some (.ref aV)) (fun h => by rw [Bd.returns] at h; cases h)
    refine ⟨_, _, pre103 _ ?_, hrun, hended, _, _, rfl, ?_, ⟨_, rfl⟩, hW, hsame.mono (by decide) (by decide)⟩
    · show Steps p.tables e below (T102.setTop (mkF m 7 #[.val (.int p1)] [(.ref aV)])) _
      jvm_step X102.here [X102.here.top, hx, (hb hby d1_7), X102.method', Bd.returns, Value.isRef, FieldType.isReference]
      first | (intro acts; rw [hr _ acts rfl rfl rfl]) | rw [hr _ _ rfl rfl rfl]
      exact Steps.refl _
    · show QrmP Z p1 aV aQ aK aR h0 n0 _ T102.heap _
      rw [e102]
      exact ⟨by rw [own_pick, if_pos hc0], N0, rfl⟩
  · skip
    have pre104 : ∀ t_, Steps p.tables e below (s₁.setTop (mkF m 10 #[.val (.int p1)] [(.int (1 : Int32)), (.int p1)])) t_ → Steps p.tables e below (s₁.setTop (entryFrame m #[(.int p1)] 1)) t_ := fun t_ k_ => pre101 _ (by
      show Steps p.tables e below (s₁.setTop (mkF m 1 #[.val (.int p1)] [(.int p1)])) _
      refine XS.ifYes X0.here hx rfl (pc0 := 1) (pc' := 8) rfl (hb hby d1_1) rfl ((if0 _ _).trans (feq hc0).2) (by decide) (by decide) ?_
      show Steps p.tables e below (s₁.setTop (mkF m 8 #[.val (.int p1)] [])) _
      refine XS.iloadN X0.here hx rfl (hb hby d1_8) rfl ?_
      show Steps p.tables e below (s₁.setTop (mkF m 9 #[.val (.int p1)] [(.int p1)])) _
      refine XS.iconst X0.here hx rfl (hb hby d1_9) ?_
      exact k_)
    by_cases hc1 : p1 = (1 : Int32)
    · skip
      obtain ⟨T105, X105, e105, st105⟩ := getS2 X0 hx hZ hown (host := "") (Or.inl (hw _ (List.mem_of_getElem? (i := 41) rfl))) Via.refl e0 S_Q (g := (mkF m 13 #[.val (.int p1)] [])) rfl (hb hby d1_13)
      have pre106 : ∀ t_, Steps p.tables e below (T105.setTop (mkF m 16 #[.val (.int p1)] [(.ref aQ)])) t_ → Steps p.tables e below (s₁.setTop (entryFrame m #[(.int p1)] 1)) t_ := fun t_ k_ => pre104 _ (by
        show Steps p.tables e below (s₁.setTop (mkF m 10 #[.val (.int p1)] [(.int (1 : Int32)), (.int p1)])) _
        refine XS.icmpNo X0.here hx rfl (hb hby d1_10) rfl (teq hc1).2 ?_
        show Steps p.tables e below (s₁.setTop (mkF m 13 #[.val (.int p1)] [])) _
        refine st105 _ ?_
        exact k_)
      obtain ⟨fs, hr, hrun, hended, hW, hsame⟩ := X105.leave (v := some (.ref aQ)) (fun h => by rw [Bd.returns] at h; cases h)
      refine ⟨_, _, pre106 _ ?_, hrun, hended, _, _, rfl, ?_, ⟨_, rfl⟩, hW, hsame.mono (by decide) (by decide)⟩
      · show Steps p.tables e below (T105.setTop (mkF m 16 #[.val (.int p1)] [(.ref aQ)])) _
        jvm_step X105.here [X105.here.top, hx, (hb hby d1_16), X105.method', Bd.returns, Value.isRef, FieldType.isReference]
        first | (intro acts; rw [hr _ acts rfl rfl rfl]) | rw [hr _ _ rfl rfl rfl]
        exact Steps.refl _
      · show QrmP Z p1 aV aQ aK aR h0 n0 _ T105.heap _
        rw [e105]
        exact ⟨by rw [own_pick, if_neg hc0, if_pos hc1], N0, rfl⟩
    · skip
      have pre107 : ∀ t_, Steps p.tables e below (s₁.setTop (mkF m 19 #[.val (.int p1)] [(.int (2 : Int32)), (.int p1)])) t_ → Steps p.tables e below (s₁.setTop (entryFrame m #[(.int p1)] 1)) t_ := fun t_ k_ => pre104 _ (by
        show Steps p.tables e below (s₁.setTop (mkF m 10 #[.val (.int p1)] [(.int (1 : Int32)), (.int p1)])) _
        refine XS.icmpYes X0.here hx rfl (pc0 := 10) (pc' := 17) rfl (hb hby d1_10) rfl (feq hc1).2 (by decide) (by decide) ?_
        show Steps p.tables e below (s₁.setTop (mkF m 17 #[.val (.int p1)] [])) _
        refine XS.iloadN X0.here hx rfl (hb hby d1_17) rfl ?_
        show Steps p.tables e below (s₁.setTop (mkF m 18 #[.val (.int p1)] [(.int p1)])) _
        refine XS.iconst X0.here hx rfl (hb hby d1_18) ?_
        exact k_)
      by_cases hc2 : p1 = (2 : Int32)
      · skip
        obtain ⟨T108, X108, e108, st108⟩ := getS2 X0 hx hZ hown (host := "") (Or.inl (hw _ (List.mem_of_getElem? (i := 45) rfl))) Via.refl e0 S_K (g := (mkF m 22 #[.val (.int p1)] [])) rfl (hb hby d1_22)
        have pre109 : ∀ t_, Steps p.tables e below (T108.setTop (mkF m 25 #[.val (.int p1)] [(.ref aK)])) t_ → Steps p.tables e below (s₁.setTop (entryFrame m #[(.int p1)] 1)) t_ := fun t_ k_ => pre107 _ (by
          show Steps p.tables e below (s₁.setTop (mkF m 19 #[.val (.int p1)] [(.int (2 : Int32)), (.int p1)])) _
          refine XS.icmpNo X0.here hx rfl (hb hby d1_19) rfl (teq hc2).2 ?_
          show Steps p.tables e below (s₁.setTop (mkF m 22 #[.val (.int p1)] [])) _
          refine st108 _ ?_
          exact k_)
        obtain ⟨fs, hr, hrun, hended, hW, hsame⟩ := X108.leave (v := some (.ref aK)) (fun h => by rw [Bd.returns] at h; cases h)
        refine ⟨_, _, pre109 _ ?_, hrun, hended, _, _, rfl, ?_, ⟨_, rfl⟩, hW, hsame.mono (by decide) (by decide)⟩
        · show Steps p.tables e below (T108.setTop (mkF m 25 #[.val (.int p1)] [(.ref aK)])) _
          jvm_step X108.here [X108.here.top, hx, (hb hby d1_25), X108.method', Bd.returns, Value.isRef, FieldType.isReference]
          first | (intro acts; rw [hr _ acts rfl rfl rfl]) | rw [hr _ _ rfl rfl rfl]
          exact Steps.refl _
        · show QrmP Z p1 aV aQ aK aR h0 n0 _ T108.heap _
          rw [e108]
          exact ⟨by rw [own_pick, if_neg hc0, if_neg hc1, if_pos hc2], N0, rfl⟩
      · skip
        obtain ⟨T110, X110, e110, st110⟩ := getS2 X0 hx hZ hown (host := "") (Or.inl (hw _ (List.mem_of_getElem? (i := 43) rfl))) Via.refl e0 S_R (g := (mkF m 26 #[.val (.int p1)] [])) rfl (hb hby d1_26)
        have pre111 : ∀ t_, Steps p.tables e below (T110.setTop (mkF m 29 #[.val (.int p1)] [(.ref aR)])) t_ → Steps p.tables e below (s₁.setTop (entryFrame m #[(.int p1)] 1)) t_ := fun t_ k_ => pre107 _ (by
          show Steps p.tables e below (s₁.setTop (mkF m 19 #[.val (.int p1)] [(.int (2 : Int32)), (.int p1)])) _
          refine XS.icmpYes X0.here hx rfl (pc0 := 19) (pc' := 26) rfl (hb hby d1_19) rfl (feq hc2).2 (by decide) (by decide) ?_
          show Steps p.tables e below (s₁.setTop (mkF m 26 #[.val (.int p1)] [])) _
          refine st110 _ ?_
          exact k_)
        obtain ⟨fs, hr, hrun, hended, hW, hsame⟩ := X110.leave (v := some (.ref aR)) (fun h => by rw [Bd.returns] at h; cases h)
        refine ⟨_, _, pre111 _ ?_, hrun, hended, _, _, rfl, ?_, ⟨_, rfl⟩, hW, hsame.mono (by decide) (by decide)⟩
        · show Steps p.tables e below (T110.setTop (mkF m 29 #[.val (.int p1)] [(.ref aR)])) _
          jvm_step X110.here [X110.here.top, hx, (hb hby d1_29), X110.method', Bd.returns, Value.isRef, FieldType.isReference]
          first | (intro acts; rw [hr _ acts rfl rfl rfl]) | rw [hr _ _ rfl rfl rfl]
          exact Steps.refl _
        · show QrmP Z p1 aV aQ aK aR h0 n0 _ T110.heap _
          rw [e110]
          exact ⟨by rw [own_pick, if_neg hc0, if_neg hc1, if_neg hc2], N0, rfl⟩
theorem d2_0 : decode prog_30_method_1_code 0 = .ok (.aload_n 0, 1) := by decide +kernel
theorem d2_1 : decode prog_30_method_1_code 1 = .ok (.invokespecial 1, 3) := by decide +kernel
theorem d2_4 : decode prog_30_method_1_code 4 = .ok (.aload_n 0, 1) := by decide +kernel
theorem d2_5 : decode prog_30_method_1_code 5 = .ok (.lload_n 1, 1) := by decide +kernel
theorem d2_6 : decode prog_30_method_1_code 6 = .ok (.putfield 7, 3) := by decide +kernel
theorem d2_9 : decode prog_30_method_1_code 9 = .ok (.aload_n 0, 1) := by decide +kernel
theorem d2_10 : decode prog_30_method_1_code 10 = .ok (.lload_n 3, 1) := by decide +kernel
theorem d2_11 : decode prog_30_method_1_code 11 = .ok (.putfield 13, 3) := by decide +kernel
theorem d2_14 : decode prog_30_method_1_code 14 = .ok (.aload_n 0, 1) := by decide +kernel
theorem d2_15 : decode prog_30_method_1_code 15 = .ok (.aload 5, 2) := by decide +kernel
theorem d2_17 : decode prog_30_method_1_code 17 = .ok (.putfield 16, 3) := by decide +kernel
theorem d2_20 : decode prog_30_method_1_code 20 = .ok (.aload_n 0, 1) := by decide +kernel
theorem d2_21 : decode prog_30_method_1_code 21 = .ok (.iload 6, 2) := by decide +kernel
theorem d2_23 : decode prog_30_method_1_code 23 = .ok (.putfield 20, 3) := by decide +kernel
theorem d2_26 : decode prog_30_method_1_code 26 = .ok (.return_, 1) := by decide +kernel
theorem pn_3 : plainName "com/example/termite/termite/broker/ShareState$Range" = true := by first | (simp [plainName, overriddenIn]; done) | decide +kernel
theorem ef_rmC (m : MethodId) (x0 : Addr) (x1 : Int64) (x2 : Int64) (x3 : Addr) (x4 : Int32) : entryFrame m #[(.ref x0), (.long x1), (.long x2), (.ref x3), (.int x4)] 7 = mkF m 0 #[.val (.ref x0), .val (.long x1), .second, .val (.long x2), .second, .val (.ref x3), .val (.int x4)] [] := by first | (simp [entryFrame, mkF, argsToLocals, Value.category]; done) | rfl
def QrmC (Z : State) (a1 : Addr) (q2 : Int64) (q3 : Int64) (a4 : Addr) (p5 : Int32) (h0 : Heap) (n0 : Nat) (v : Option Value) (h : Heap) (L : List Loc) : Prop := v = none ∧ Fr n0 L ∧ Keep h0 h [a1] ∧ Exa Z h a1 "com/example/termite/termite/broker/ShareState$Range" ∧ Fld Z h a1 "com/example/termite/termite/broker/ShareState$Range" "firstOffset" "J" (.long q2) ∧ Fld Z h a1 "com/example/termite/termite/broker/ShareState$Range" "lastOffset" "J" (.long q3) ∧ Fld Z h a1 "com/example/termite/termite/broker/ShareState$Range" "state" "Lcom/example/termite/termite/broker/RecordState;" (.ref a4) ∧ Fld Z h a1 "com/example/termite/termite/broker/ShareState$Range" "deliveryCount" "S" (.int (nar .short p5))
set_option maxRecDepth 65536 in
set_option maxHeartbeats 40000000 in
theorem rmC (l : Launch) (Z : State) (a0 : Array Value) (hw : ∀ d ∈ tables_1, d.before a0 Z = true) (ws : List Jvm.Cond) (a1 : Addr) (q2 : Int64) (q3 : Int64) (a4 : Addr) (p5 : Int32) (h0 : Heap) (n0 : Nat) (Z0 : n0 ≤ h0.size) (E_o : Exa Z h0 a1 "com/example/termite/termite/broker/ShareState$Range") (F_0 : Fld Z h0 a1 "com/example/termite/termite/broker/ShareState$Range" "firstOffset" "J" (.long (0 : Int64))) (F_1 : Fld Z h0 a1 "com/example/termite/termite/broker/ShareState$Range" "lastOffset" "J" (.long (0 : Int64))) (F_2 : Fld Z h0 a1 "com/example/termite/termite/broker/ShareState$Range" "state" "Lcom/example/termite/termite/broker/RecordState;" .null) (F_3 : Fld Z h0 a1 "com/example/termite/termite/broker/ShareState$Range" "deliveryCount" "S" (.int (0 : Int32))) (g_a1 : n0 ≤ a1) :
    MetFree l (⟨"com/example/termite/termite/broker/ShareState$Range", "<init>", "(JJLcom/example/termite/termite/broker/RecordState;S)V"⟩ : MethodName) (head1 (Jvm.Cond.code (⟨"com/example/termite/termite/broker/ShareState$Range", "<init>", "(JJLcom/example/termite/termite/broker/RecordState;S)V"⟩ : MethodName) prog_30_method_1_code 7 none :: ws) ({ frames := 1, cells := 0, slots := 0, locals := 12 } : Room)) (fun a U => a = #[(.ref a1), (.long q2), (.long q3), (.ref a4), (.int p5)] ∧ Z.Warmed39 U.vm ∧ U.heap = h0) (fun _ _ _ _ _ => True) (fun _ U o U' => ∃ v L, o = .returned v ∧ QrmC Z a1 q2 q3 a4 p5 h0 n0 v U'.heap L ∧ FrameEnd U o U' L ({ frames := 1, cells := 0, slots := 0, locals := 12 } : Room).cells ({ frames := 1, cells := 0, slots := 0, locals := 12 } : Room).slots) := by
  refine MetFree.of_bodySF (plainFor_of_name pn_3) hisR ?_
  intro p e s m args below meth c s₁ Bd hml0 hP hK
  obtain ⟨rfl, hZ, hh⟩ := hP
  have hx := Bd.exec
  have hby := Bd.bytes
  have hml : c.maxLocals = 7 := hml0
  have hown : s.vm.findClass "com/example/termite/termite/broker/ShareState$Range" = some m.cls := findClass_of_methodNamed Bd.named
  have hnm := (name_of_methodNamed Bd.named Bd.method).1
  have X0 : Stand p l e ({ frames := 1, cells := 0, slots := 0, locals := 12 } : Room) s m #[(.ref a1), (.long q2), (.long q3), (.ref a4), (.int p5)] below meth c s₁ [] 0 0 := Stand.of_body Bd
  have e0 : s₁.heap = h0 := by rw [← hh, Bd.state]; rfl
  have N0 := Fr.nil n0
  have pre0 : ∀ t_, Steps p.tables e below (s₁.setTop (mkF m 0 #[.val (.ref a1), .val (.long q2), .second, .val (.long q3), .second, .val (.ref a4), .val (.int p5)] [])) t_ → Steps p.tables e below (s₁.setTop (entryFrame m #[(.ref a1), (.long q2), (.long q3), (.ref a4), (.int p5)] 7)) t_ := fun t_ k_ => castTop (ef_rmC m a1 q2 q3 a4 p5) k_
  obtain ⟨T101, X101, e101, st101⟩ := initO X0 hx hZ hown (hw _ (List.mem_of_getElem? (i := 13) rfl)) (hw _ (List.mem_of_getElem? (i := 14) rfl)) (hw _ (List.mem_of_getElem? (i := 15) rfl)) e0 (g := (mkF m 1 #[.val (.ref a1), .val (.long q2), .second, .val (.long q3), .second, .val (.ref a4), .val (.int p5)] [(.ref a1)])) rfl (by rw [hml]; rfl) rfl (hb hby d2_1) (by decide) (W := 0) (by show 2 * 0 + _ ≤ _; exact Nat.le_of_eq rfl) (by decide)
  obtain ⟨T102, h102, X102, e102, W102, st102⟩ := putF X101 hx hZ hown (host := "") (Or.inl (hw _ (List.mem_of_getElem? (i := 16) rfl))) Via.refl e101 F_0 E_o (Or.inr ⟨(hw _ (List.mem_of_getElem? (i := 17) rfl)), rfl, hnm⟩) (hw _ (List.mem_of_getElem? (i := 8) rfl)) (ty := .long) (by decide) rfl rfl (g := (mkF m 6 #[.val (.ref a1), .val (.long q2), .second, .val (.long q3), .second, .val (.ref a4), .val (.int p5)] [(.long q2), (.ref a1)])) rfl rfl (hb hby d2_6)
  have F1_103 := F_1.other W102 (Or.inr (slot_ne (Or.inr (hw _ (List.mem_of_getElem? (i := 19) rfl))) (Or.inr (hw _ (List.mem_of_getElem? (i := 17) rfl))) (by decide) (t := .long) (t' := .long) (by decide) (by decide)))
  have F2_104 := F_2.other W102 (Or.inr (slot_ne (Or.inr (hw _ (List.mem_of_getElem? (i := 21) rfl))) (Or.inr (hw _ (List.mem_of_getElem? (i := 17) rfl))) (by decide) (t := (.object "com/example/termite/termite/broker/RecordState")) (t' := .long) (by decide) (by decide)))
  have F3_105 := F_3.other W102 (Or.inr (slot_ne (Or.inr (hw _ (List.mem_of_getElem? (i := 23) rfl))) (Or.inr (hw _ (List.mem_of_getElem? (i := 17) rfl))) (by decide) (t := .short) (t' := .long) (by decide) (by decide)))
  have E_106 := E_o.wr W102
  have K_107 := (Keep.refl h0 [a1]).wr W102 (Or.inl (List.mem_of_getElem? (i := 0) rfl))
  have F0_108 := F_0.same W102
  have N102 := Fr.snoc X102 N0 g_a1
  have Z109 : n0 ≤ h102.size := Nat.le_trans Z0 ((Keep.of_wr W102).1)
  obtain ⟨T110, h110, X110, e110, W110, st110⟩ := putF X102 hx hZ hown (host := "") (Or.inl (hw _ (List.mem_of_getElem? (i := 18) rfl))) Via.refl e102 F1_103 E_106 (Or.inr ⟨(hw _ (List.mem_of_getElem? (i := 19) rfl)), rfl, hnm⟩) (hw _ (List.mem_of_getElem? (i := 8) rfl)) (ty := .long) (by decide) rfl rfl (g := (mkF m 11 #[.val (.ref a1), .val (.long q2), .second, .val (.long q3), .second, .val (.ref a4), .val (.int p5)] [(.long q3), (.ref a1)])) rfl rfl (hb hby d2_11)
  have F0_111 := F0_108.other W110 (Or.inr (slot_ne (Or.inr (hw _ (List.mem_of_getElem? (i := 17) rfl))) (Or.inr (hw _ (List.mem_of_getElem? (i := 19) rfl))) (by decide) (t := .long) (t' := .long) (by decide) (by decide)))
  have F2_112 := F2_104.other W110 (Or.inr (slot_ne (Or.inr (hw _ (List.mem_of_getElem? (i := 21) rfl))) (Or.inr (hw _ (List.mem_of_getElem? (i := 19) rfl))) (by decide) (t := (.object "com/example/termite/termite/broker/RecordState")) (t' := .long) (by decide) (by decide)))
  have F3_113 := F3_105.other W110 (Or.inr (slot_ne (Or.inr (hw _ (List.mem_of_getElem? (i := 23) rfl))) (Or.inr (hw _ (List.mem_of_getElem? (i := 19) rfl))) (by decide) (t := .short) (t' := .long) (by decide) (by decide)))
  have E_114 := E_106.wr W110
  have K_115 := K_107.wr W110 (Or.inl (List.mem_of_getElem? (i := 0) rfl))
  have F1_116 := F1_103.same W110
  have N110 := Fr.snoc X110 N102 g_a1
  have Z117 : n0 ≤ h110.size := Nat.le_trans Z109 ((Keep.of_wr W110).1)
  obtain ⟨T118, h118, X118, e118, W118, st118⟩ := putF X110 hx hZ hown (host := "") (Or.inl (hw _ (List.mem_of_getElem? (i := 20) rfl))) Via.refl e110 F2_112 E_114 (Or.inr ⟨(hw _ (List.mem_of_getElem? (i := 21) rfl)), rfl, hnm⟩) (hw _ (List.mem_of_getElem? (i := 8) rfl)) (ty := (.object "com/example/termite/termite/broker/RecordState")) (by decide) rfl rfl (g := (mkF m 17 #[.val (.ref a1), .val (.long q2), .second, .val (.long q3), .second, .val (.ref a4), .val (.int p5)] [(.ref a4), (.ref a1)])) rfl rfl (hb hby d2_17)
  have F0_119 := F0_111.other W118 (Or.inr (slot_ne (Or.inr (hw _ (List.mem_of_getElem? (i := 17) rfl))) (Or.inr (hw _ (List.mem_of_getElem? (i := 21) rfl))) (by decide) (t := .long) (t' := (.object "com/example/termite/termite/broker/RecordState")) (by decide) (by decide)))
  have F1_120 := F1_116.other W118 (Or.inr (slot_ne (Or.inr (hw _ (List.mem_of_getElem? (i := 19) rfl))) (Or.inr (hw _ (List.mem_of_getElem? (i := 21) rfl))) (by decide) (t := .long) (t' := (.object "com/example/termite/termite/broker/RecordState")) (by decide) (by decide)))
  have F3_121 := F3_113.other W118 (Or.inr (slot_ne (Or.inr (hw _ (List.mem_of_getElem? (i := 23) rfl))) (Or.inr (hw _ (List.mem_of_getElem? (i := 21) rfl))) (by decide) (t := .short) (t' := (.object "com/example/termite/termite/broker/RecordState")) (by decide) (by decide)))
  have E_122 := E_114.wr W118
  have K_123 := K_115.wr W118 (Or.inl (List.mem_of_getElem? (i := 0) rfl))
  have F2_124 := F2_112.same W118
  have N118 := Fr.snoc X118 N110 g_a1
  have Z125 : n0 ≤ h118.size := Nat.le_trans Z117 ((Keep.of_wr W118).1)
  obtain ⟨T126, h126, X126, e126, W126, st126⟩ := putFN X118 hx hZ hown (hw _ (List.mem_of_getElem? (i := 22) rfl)) Via.refl e118 F3_121 E_122 (Or.inr ⟨(hw _ (List.mem_of_getElem? (i := 23) rfl)), rfl, hnm⟩) (hw _ (List.mem_of_getElem? (i := 8) rfl)) (ty := .short) (v' := (.int (nar .short p5))) (by decide) rfl (fits_nar_short _) (g := (mkF m 23 #[.val (.ref a1), .val (.long q2), .second, .val (.long q3), .second, .val (.ref a4), .val (.int p5)] [(.int p5), (.ref a1)])) rfl rfl (hb hby d2_23)
  have F0_127 := F0_119.other W126 (Or.inr (slot_ne (Or.inr (hw _ (List.mem_of_getElem? (i := 17) rfl))) (Or.inr (hw _ (List.mem_of_getElem? (i := 23) rfl))) (by decide) (t := .long) (t' := .short) (by decide) (by decide)))
  have F1_128 := F1_120.other W126 (Or.inr (slot_ne (Or.inr (hw _ (List.mem_of_getElem? (i := 19) rfl))) (Or.inr (hw _ (List.mem_of_getElem? (i := 23) rfl))) (by decide) (t := .long) (t' := .short) (by decide) (by decide)))
  have F2_129 := F2_124.other W126 (Or.inr (slot_ne (Or.inr (hw _ (List.mem_of_getElem? (i := 21) rfl))) (Or.inr (hw _ (List.mem_of_getElem? (i := 23) rfl))) (by decide) (t := (.object "com/example/termite/termite/broker/RecordState")) (t' := .short) (by decide) (by decide)))
  have E_130 := E_122.wr W126
  have K_131 := K_123.wr W126 (Or.inl (List.mem_of_getElem? (i := 0) rfl))
  have F3_132 := F3_121.same W126
  have N126 := Fr.snoc X126 N118 g_a1
  have Z133 : n0 ≤ h126.size := Nat.le_trans Z125 ((Keep.of_wr W126).1)
  have pre134 : ∀ t_, Steps p.tables e below (T126.setTop (mkF m 26 #[.val (.ref a1), .val (.long q2), .second, .val (.long q3), .second, .val (.ref a4), .val (.int p5)] [])) t_ → Steps p.tables e below (s₁.setTop (entryFrame m #[(.ref a1), (.long q2), (.long q3), (.ref a4), (.int p5)] 7)) t_ := fun t_ k_ => pre0 _ (by
    show Steps p.tables e below (s₁.setTop (mkF m 0 #[.val (.ref a1), .val (.long q2), .second, .val (.long q3), .second, .val (.ref a4), .val (.int p5)] [])) _
    refine XS.aloadN X0.here hx rfl (hb hby d2_0) rfl rfl ?_
    show Steps p.tables e below (s₁.setTop (mkF m 1 #[.val (.ref a1), .val (.long q2), .second, .val (.long q3), .second, .val (.ref a4), .val (.int p5)] [(.ref a1)])) _
    refine st101 _ ?_
    show Steps p.tables e below (T101.setTop (mkF m 4 #[.val (.ref a1), .val (.long q2), .second, .val (.long q3), .second, .val (.ref a4), .val (.int p5)] [])) _
    refine XS.aloadN X101.here hx rfl (hb hby d2_4) rfl rfl ?_
    show Steps p.tables e below (T101.setTop (mkF m 5 #[.val (.ref a1), .val (.long q2), .second, .val (.long q3), .second, .val (.ref a4), .val (.int p5)] [(.ref a1)])) _
    refine XS.lloadN X101.here hx rfl (hb hby d2_5) rfl ?_
    show Steps p.tables e below (T101.setTop (mkF m 6 #[.val (.ref a1), .val (.long q2), .second, .val (.long q3), .second, .val (.ref a4), .val (.int p5)] [(.long q2), (.ref a1)])) _
    refine st102 _ ?_
    show Steps p.tables e below (T102.setTop (mkF m 9 #[.val (.ref a1), .val (.long q2), .second, .val (.long q3), .second, .val (.ref a4), .val (.int p5)] [])) _
    refine XS.aloadN X102.here hx rfl (hb hby d2_9) rfl rfl ?_
    show Steps p.tables e below (T102.setTop (mkF m 10 #[.val (.ref a1), .val (.long q2), .second, .val (.long q3), .second, .val (.ref a4), .val (.int p5)] [(.ref a1)])) _
    refine XS.lloadN X102.here hx rfl (hb hby d2_10) rfl ?_
    show Steps p.tables e below (T102.setTop (mkF m 11 #[.val (.ref a1), .val (.long q2), .second, .val (.long q3), .second, .val (.ref a4), .val (.int p5)] [(.long q3), (.ref a1)])) _
    refine st110 _ ?_
    show Steps p.tables e below (T110.setTop (mkF m 14 #[.val (.ref a1), .val (.long q2), .second, .val (.long q3), .second, .val (.ref a4), .val (.int p5)] [])) _
    refine XS.aloadN X110.here hx rfl (hb hby d2_14) rfl rfl ?_
    show Steps p.tables e below (T110.setTop (mkF m 15 #[.val (.ref a1), .val (.long q2), .second, .val (.long q3), .second, .val (.ref a4), .val (.int p5)] [(.ref a1)])) _
    refine XS.aload X110.here hx rfl (hb hby d2_15) rfl rfl ?_
    show Steps p.tables e below (T110.setTop (mkF m 17 #[.val (.ref a1), .val (.long q2), .second, .val (.long q3), .second, .val (.ref a4), .val (.int p5)] [(.ref a4), (.ref a1)])) _
    refine st118 _ ?_
    show Steps p.tables e below (T118.setTop (mkF m 20 #[.val (.ref a1), .val (.long q2), .second, .val (.long q3), .second, .val (.ref a4), .val (.int p5)] [])) _
    refine XS.aloadN X118.here hx rfl (hb hby d2_20) rfl rfl ?_
    show Steps p.tables e below (T118.setTop (mkF m 21 #[.val (.ref a1), .val (.long q2), .second, .val (.long q3), .second, .val (.ref a4), .val (.int p5)] [(.ref a1)])) _
    refine XS.iload X118.here hx rfl (hb hby d2_21) rfl ?_
    show Steps p.tables e below (T118.setTop (mkF m 23 #[.val (.ref a1), .val (.long q2), .second, .val (.long q3), .second, .val (.ref a4), .val (.int p5)] [(.int p5), (.ref a1)])) _
    refine st126 _ ?_
    exact k_)
  obtain ⟨fs, hr, hrun, hended, hW, hsame⟩ := X126.leave (v := none) (fun _ => rfl)
  refine ⟨_, _, pre134 _ ?_, hrun, hended, _, _, rfl, ?_, ⟨_, rfl⟩, hW, hsame.mono (by decide) (by decide)⟩
  · show Steps p.tables e below (T126.setTop (mkF m 26 #[.val (.ref a1), .val (.long q2), .second, .val (.long q3), .second, .val (.ref a4), .val (.int p5)] [])) _
    exact X126.returnOut hx Bd.returns (hb hby d2_26) hr
  · show QrmC Z a1 q2 q3 a4 p5 h0 n0 _ T126.heap _
    rw [e126]
    exact ⟨rfl, N126, K_131, E_130, F0_127, F1_128, F2_129, F3_132⟩
theorem d4_0 : decode prog_30_method_6_code 0 = .ok (.aload_n 1, 1) := by decide +kernel
theorem d4_1 : decode prog_30_method_6_code 1 = .ok (.instanceof 8, 3) := by decide +kernel
theorem d4_4 : decode prog_30_method_6_code 4 = .ok (.ifCond .eq 65, 3) := by decide +kernel
theorem d4_69 : decode prog_30_method_6_code 69 = .ok (.iconst 0, 1) := by decide +kernel
theorem d4_70 : decode prog_30_method_6_code 70 = .ok (.ireturn, 1) := by decide +kernel
theorem ef_rmE0 (m : MethodId) (x0 : Addr) : entryFrame m #[(.ref x0), .null] 2 = mkF m 0 #[.val (.ref x0), .val .null] [] := by first | (simp [entryFrame, mkF, argsToLocals, Value.category]; done) | rfl
def QrmE0 (Z : State) (a1 : Addr) (h0 : Heap) (n0 : Nat) (v : Option Value) (h : Heap) (L : List Loc) : Prop := v = some (.int 0) ∧ Fr n0 L ∧ h = h0
set_option maxRecDepth 65536 in
set_option maxHeartbeats 40000000 in
theorem rmE0 (l : Launch) (Z : State) (a0 : Array Value) (hw : ∀ d ∈ tables_1, d.before a0 Z = true) (ws : List Jvm.Cond) (a1 : Addr) (h0 : Heap) (n0 : Nat) (Z0 : n0 ≤ h0.size) :
    MetFree l (⟨"com/example/termite/termite/broker/ShareState$Range", "equals", "(Ljava/lang/Object;)Z"⟩ : MethodName) (head1 (Jvm.Cond.code (⟨"com/example/termite/termite/broker/ShareState$Range", "equals", "(Ljava/lang/Object;)Z"⟩ : MethodName) prog_30_method_6_code 2 (some .boolean) :: ws) ({ frames := 0, cells := 0, slots := 0, locals := 0 } : Room)) (fun a U => a = #[(.ref a1), .null] ∧ Z.Warmed39 U.vm ∧ U.heap = h0) (fun _ _ _ _ _ => True) (fun _ U o U' => ∃ v L, o = .returned v ∧ QrmE0 Z a1 h0 n0 v U'.heap L ∧ FrameEnd U o U' L ({ frames := 0, cells := 0, slots := 0, locals := 0 } : Room).cells ({ frames := 0, cells := 0, slots := 0, locals := 0 } : Room).slots) := by
  refine MetFree.of_bodySF (plainFor_of_name pn_3) hisR ?_
  intro p e s m args below meth c s₁ Bd hml0 hP hK
  obtain ⟨rfl, hZ, hh⟩ := hP
  have hx := Bd.exec
  have hby := Bd.bytes
  have hml : c.maxLocals = 2 := hml0
  have hown : s.vm.findClass "com/example/termite/termite/broker/ShareState$Range" = some m.cls := findClass_of_methodNamed Bd.named
  have hnm := (name_of_methodNamed Bd.named Bd.method).1
  have X0 : Stand p l e ({ frames := 0, cells := 0, slots := 0, locals := 0 } : Room) s m #[(.ref a1), .null] below meth c s₁ [] 0 0 := Stand.of_body Bd
  have e0 : s₁.heap = h0 := by rw [← hh, Bd.state]; rfl
  have N0 := Fr.nil n0
  have pre0 : ∀ t_, Steps p.tables e below (s₁.setTop (mkF m 0 #[.val (.ref a1), .val .null] [])) t_ → Steps p.tables e below (s₁.setTop (entryFrame m #[(.ref a1), .null] 2)) t_ := fun t_ k_ => castTop (ef_rmE0 m a1) k_
  have pre101 : ∀ t_, Steps p.tables e below (s₁.setTop (mkF m 70 #[.val (.ref a1), .val .null] [(.int (0 : Int32))])) t_ → Steps p.tables e below (s₁.setTop (entryFrame m #[(.ref a1), .null] 2)) t_ := fun t_ k_ => pre0 _ (by
    show Steps p.tables e below (s₁.setTop (mkF m 0 #[.val (.ref a1), .val .null] [])) _
    refine XS.aloadN X0.here hx rfl (hb hby d4_0) rfl rfl ?_
    show Steps p.tables e below (s₁.setTop (mkF m 1 #[.val (.ref a1), .val .null] [.null])) _
    refine X0.instanceofNull hx (g := (mkF m 1 #[.val (.ref a1), .val .null] [.null])) rfl rfl (hb hby d4_1) _ ?_
    show Steps p.tables e below (s₁.setTop (mkF m 4 #[.val (.ref a1), .val .null] [(.int (0 : Int32))])) _
    refine XS.ifYes X0.here hx rfl (pc0 := 4) (pc' := 69) rfl (hb hby d4_4) rfl ((if0 _ _).trans (teq (rfl : (0 : Int32) = 0)).1) (by decide) (by decide) ?_
    show Steps p.tables e below (s₁.setTop (mkF m 69 #[.val (.ref a1), .val .null] [])) _
    refine XS.iconst X0.here hx rfl (hb hby d4_69) ?_
    exact k_)
  obtain ⟨fs, hr, hrun, hended, hW, hsame⟩ := X0.leave (v := some (.int (0 : Int32))) (fun h => by rw [Bd.returns] at h; cases h)
  refine ⟨_, _, pre101 _ ?_, hrun, hended, _, _, rfl, ?_, ⟨_, rfl⟩, hW, hsame.mono (by decide) (by decide)⟩
  · show Steps p.tables e below (s₁.setTop (mkF m 70 #[.val (.ref a1), .val .null] [(.int (0 : Int32))])) _
    exact retN X0 hx (t := .boolean) Bd.returns (by simp) (hb hby d4_70) hr
  · show QrmE0 Z a1 h0 n0 _ s₁.heap _
    rw [e0]
    exact ⟨rfl, N0, rfl⟩
theorem ef_rmE1 (m : MethodId) (x0 : Addr) (x1 : Addr) : entryFrame m #[(.ref x0), (.ref x1)] 2 = mkF m 0 #[.val (.ref x0), .val (.ref x1)] [] := by first | (simp [entryFrame, mkF, argsToLocals, Value.category]; done) | rfl
def QrmE1 (Z : State) (a1 : Addr) (a2 : Addr) (h0 : Heap) (n0 : Nat) (v : Option Value) (h : Heap) (L : List Loc) : Prop := v = some (.int 0) ∧ Fr n0 L ∧ h = h0
set_option maxRecDepth 65536 in
set_option maxHeartbeats 40000000 in
theorem rmE1 (l : Launch) (Z : State) (a0 : Array Value) (hw : ∀ d ∈ tables_1, d.before a0 Z = true) (ws : List Jvm.Cond) (a1 : Addr) (a2 : Addr) (h0 : Heap) (n0 : Nat) (Z0 : n0 ≤ h0.size) (E_i : Exa Z h0 a2 "java/lang/Integer") :
    MetFree l (⟨"com/example/termite/termite/broker/ShareState$Range", "equals", "(Ljava/lang/Object;)Z"⟩ : MethodName) (head1 (Jvm.Cond.code (⟨"com/example/termite/termite/broker/ShareState$Range", "equals", "(Ljava/lang/Object;)Z"⟩ : MethodName) prog_30_method_6_code 2 (some .boolean) :: ws) ({ frames := 0, cells := 0, slots := 0, locals := 0 } : Room)) (fun a U => a = #[(.ref a1), (.ref a2)] ∧ Z.Warmed39 U.vm ∧ U.heap = h0) (fun _ _ _ _ _ => True) (fun _ U o U' => ∃ v L, o = .returned v ∧ QrmE1 Z a1 a2 h0 n0 v U'.heap L ∧ FrameEnd U o U' L ({ frames := 0, cells := 0, slots := 0, locals := 0 } : Room).cells ({ frames := 0, cells := 0, slots := 0, locals := 0 } : Room).slots) := by
  refine MetFree.of_bodySF (plainFor_of_name pn_3) hisR ?_
  intro p e s m args below meth c s₁ Bd hml0 hP hK
  obtain ⟨rfl, hZ, hh⟩ := hP
  have hx := Bd.exec
  have hby := Bd.bytes
  have hml : c.maxLocals = 2 := hml0
  have hown : s.vm.findClass "com/example/termite/termite/broker/ShareState$Range" = some m.cls := findClass_of_methodNamed Bd.named
  have hnm := (name_of_methodNamed Bd.named Bd.method).1
  have X0 : Stand p l e ({ frames := 0, cells := 0, slots := 0, locals := 0 } : Room) s m #[(.ref a1), (.ref a2)] below meth c s₁ [] 0 0 := Stand.of_body Bd
  have e0 : s₁.heap = h0 := by rw [← hh, Bd.state]; rfl
  have N0 := Fr.nil n0
  have pre0 : ∀ t_, Steps p.tables e below (s₁.setTop (mkF m 0 #[.val (.ref a1), .val (.ref a2)] [])) t_ → Steps p.tables e below (s₁.setTop (entryFrame m #[(.ref a1), (.ref a2)] 2)) t_ := fun t_ k_ => castTop (ef_rmE1 m a1 a2) k_
  obtain ⟨T101, X101, e101, st101⟩ := instNo X0 hx hZ hown (hw _ (List.mem_of_getElem? (i := 29) rfl)) e0 E_i (own_nsK (hw _ (List.mem_of_getElem? (i := 38) rfl)) (hw _ (List.mem_of_getElem? (i := 39) rfl)) (hw _ (List.mem_of_getElem? (i := 40) rfl)) (hw _ (List.mem_of_getElem? (i := 8) rfl)) (by decide) (by decide) (by decide)) (g := (mkF m 1 #[.val (.ref a1), .val (.ref a2)] [(.ref a2)])) rfl rfl (hb hby d4_1)
  have pre102 : ∀ t_, Steps p.tables e below (T101.setTop (mkF m 70 #[.val (.ref a1), .val (.ref a2)] [(.int (0 : Int32))])) t_ → Steps p.tables e below (s₁.setTop (entryFrame m #[(.ref a1), (.ref a2)] 2)) t_ := fun t_ k_ => pre0 _ (by
    show Steps p.tables e below (s₁.setTop (mkF m 0 #[.val (.ref a1), .val (.ref a2)] [])) _
    refine XS.aloadN X0.here hx rfl (hb hby d4_0) rfl rfl ?_
    show Steps p.tables e below (s₁.setTop (mkF m 1 #[.val (.ref a1), .val (.ref a2)] [(.ref a2)])) _
    refine st101 _ ?_
    show Steps p.tables e below (T101.setTop (mkF m 4 #[.val (.ref a1), .val (.ref a2)] [(.int (0 : Int32))])) _
    refine XS.ifYes X101.here hx rfl (pc0 := 4) (pc' := 69) rfl (hb hby d4_4) rfl ((if0 _ _).trans (teq (rfl : (0 : Int32) = 0)).1) (by decide) (by decide) ?_
    show Steps p.tables e below (T101.setTop (mkF m 69 #[.val (.ref a1), .val (.ref a2)] [])) _
    refine XS.iconst X101.here hx rfl (hb hby d4_69) ?_
    exact k_)
  obtain ⟨fs, hr, hrun, hended, hW, hsame⟩ := X101.leave (v := some (.int (0 : Int32))) (fun h => by rw [Bd.returns] at h; cases h)
  refine ⟨_, _, pre102 _ ?_, hrun, hended, _, _, rfl, ?_, ⟨_, rfl⟩, hW, hsame.mono (by decide) (by decide)⟩
  · show Steps p.tables e below (T101.setTop (mkF m 70 #[.val (.ref a1), .val (.ref a2)] [(.int (0 : Int32))])) _
    exact retN X101 hx (t := .boolean) Bd.returns (by simp) (hb hby d4_70) hr
  · show QrmE1 Z a1 a2 h0 n0 _ T101.heap _
    rw [e101]
    exact ⟨rfl, N0, rfl⟩
theorem d4_7 : decode prog_30_method_6_code 7 = .ok (.aload_n 0, 1) := by decide +kernel
theorem d4_8 : decode prog_30_method_6_code 8 = .ok (.getfield 7, 3) := by decide +kernel
theorem d4_11 : decode prog_30_method_6_code 11 = .ok (.aload_n 1, 1) := by decide +kernel
theorem d4_12 : decode prog_30_method_6_code 12 = .ok (.checkcast 8, 3) := by decide +kernel
theorem d4_15 : decode prog_30_method_6_code 15 = .ok (.getfield 7, 3) := by decide +kernel
theorem d4_18 : decode prog_30_method_6_code 18 = .ok (.lcmp, 1) := by decide +kernel
theorem d4_19 : decode prog_30_method_6_code 19 = .ok (.ifCond .ne 50, 3) := by decide +kernel
theorem d4_22 : decode prog_30_method_6_code 22 = .ok (.aload_n 0, 1) := by decide +kernel
theorem d4_23 : decode prog_30_method_6_code 23 = .ok (.getfield 13, 3) := by decide +kernel
theorem d4_26 : decode prog_30_method_6_code 26 = .ok (.aload_n 1, 1) := by decide +kernel
theorem d4_27 : decode prog_30_method_6_code 27 = .ok (.checkcast 8, 3) := by decide +kernel
theorem d4_30 : decode prog_30_method_6_code 30 = .ok (.getfield 13, 3) := by decide +kernel
theorem d4_33 : decode prog_30_method_6_code 33 = .ok (.lcmp, 1) := by decide +kernel
theorem d4_34 : decode prog_30_method_6_code 34 = .ok (.ifCond .ne 35, 3) := by decide +kernel
theorem d4_37 : decode prog_30_method_6_code 37 = .ok (.aload_n 0, 1) := by decide +kernel
theorem d4_38 : decode prog_30_method_6_code 38 = .ok (.getfield 16, 3) := by decide +kernel
theorem d4_41 : decode prog_30_method_6_code 41 = .ok (.aload_n 1, 1) := by decide +kernel
theorem d4_42 : decode prog_30_method_6_code 42 = .ok (.checkcast 8, 3) := by decide +kernel
theorem d4_45 : decode prog_30_method_6_code 45 = .ok (.getfield 16, 3) := by decide +kernel
theorem d4_48 : decode prog_30_method_6_code 48 = .ok (.if_acmp .ne 21, 3) := by decide +kernel
theorem d4_51 : decode prog_30_method_6_code 51 = .ok (.aload_n 0, 1) := by decide +kernel
theorem d4_52 : decode prog_30_method_6_code 52 = .ok (.getfield 20, 3) := by decide +kernel
theorem d4_55 : decode prog_30_method_6_code 55 = .ok (.aload_n 1, 1) := by decide +kernel
theorem d4_56 : decode prog_30_method_6_code 56 = .ok (.checkcast 8, 3) := by decide +kernel
theorem d4_59 : decode prog_30_method_6_code 59 = .ok (.getfield 20, 3) := by decide +kernel
theorem d4_62 : decode prog_30_method_6_code 62 = .ok (.if_icmp .ne 7, 3) := by decide +kernel
theorem d4_65 : decode prog_30_method_6_code 65 = .ok (.iconst 1, 1) := by decide +kernel
theorem d4_66 : decode prog_30_method_6_code 66 = .ok (.goto 4, 3) := by decide +kernel
theorem ef_rmE2 (m : MethodId) (x0 : Addr) (x1 : Addr) : entryFrame m #[(.ref x0), (.ref x1)] 2 = mkF m 0 #[.val (.ref x0), .val (.ref x1)] [] := by first | (simp [entryFrame, mkF, argsToLocals, Value.category]; done) | rfl
def QrmE2 (Z : State) (a1 : Addr) (a2 : Addr) (f1 : Int64) (l1 : Int64) (s1 : Addr) (d1 : Int32) (f2 : Int64) (l2 : Int64) (s2 : Addr) (d2 : Int32) (h0 : Heap) (n0 : Nat) (v : Option Value) (h : Heap) (L : List Loc) : Prop := v = some (.int (own_eq4 f1 l1 s1 d1 f2 l2 s2 d2)) ∧ Fr n0 L ∧ h = h0
set_option maxRecDepth 65536 in
set_option maxHeartbeats 40000000 in
theorem rmE2 (l : Launch) (Z : State) (a0 : Array Value) (hw : ∀ d ∈ tables_1, d.before a0 Z = true) (ws : List Jvm.Cond) (a1 : Addr) (a2 : Addr) (f1 : Int64) (l1 : Int64) (s1 : Addr) (d1 : Int32) (f2 : Int64) (l2 : Int64) (s2 : Addr) (d2 : Int32) (h0 : Heap) (n0 : Nat) (Z0 : n0 ≤ h0.size) (E_i : Exa Z h0 a2 "com/example/termite/termite/broker/ShareState$Range") (F0 : Fld Z h0 a1 "com/example/termite/termite/broker/ShareState$Range" "firstOffset" "J" (.long f1)) (F1 : Fld Z h0 a1 "com/example/termite/termite/broker/ShareState$Range" "lastOffset" "J" (.long l1)) (F2 : Fld Z h0 a1 "com/example/termite/termite/broker/ShareState$Range" "state" "Lcom/example/termite/termite/broker/RecordState;" (.ref s1)) (F3 : Fld Z h0 a1 "com/example/termite/termite/broker/ShareState$Range" "deliveryCount" "S" (.int d1)) (G0 : Fld Z h0 a2 "com/example/termite/termite/broker/ShareState$Range" "firstOffset" "J" (.long f2)) (G1 : Fld Z h0 a2 "com/example/termite/termite/broker/ShareState$Range" "lastOffset" "J" (.long l2)) (G2 : Fld Z h0 a2 "com/example/termite/termite/broker/ShareState$Range" "state" "Lcom/example/termite/termite/broker/RecordState;" (.ref s2)) (G3 : Fld Z h0 a2 "com/example/termite/termite/broker/ShareState$Range" "deliveryCount" "S" (.int d2)) :
    MetFree l (⟨"com/example/termite/termite/broker/ShareState$Range", "equals", "(Ljava/lang/Object;)Z"⟩ : MethodName) (head1 (Jvm.Cond.code (⟨"com/example/termite/termite/broker/ShareState$Range", "equals", "(Ljava/lang/Object;)Z"⟩ : MethodName) prog_30_method_6_code 2 (some .boolean) :: ws) ({ frames := 0, cells := 0, slots := 0, locals := 0 } : Room)) (fun a U => a = #[(.ref a1), (.ref a2)] ∧ Z.Warmed39 U.vm ∧ U.heap = h0) (fun _ _ _ _ _ => True) (fun _ U o U' => ∃ v L, o = .returned v ∧ QrmE2 Z a1 a2 f1 l1 s1 d1 f2 l2 s2 d2 h0 n0 v U'.heap L ∧ FrameEnd U o U' L ({ frames := 0, cells := 0, slots := 0, locals := 0 } : Room).cells ({ frames := 0, cells := 0, slots := 0, locals := 0 } : Room).slots) := by
  refine MetFree.of_bodySF (plainFor_of_name pn_3) hisR ?_
  intro p e s m args below meth c s₁ Bd hml0 hP hK
  obtain ⟨rfl, hZ, hh⟩ := hP
  have hx := Bd.exec
  have hby := Bd.bytes
  have hml : c.maxLocals = 2 := hml0
  have hown : s.vm.findClass "com/example/termite/termite/broker/ShareState$Range" = some m.cls := findClass_of_methodNamed Bd.named
  have hnm := (name_of_methodNamed Bd.named Bd.method).1
  have X0 : Stand p l e ({ frames := 0, cells := 0, slots := 0, locals := 0 } : Room) s m #[(.ref a1), (.ref a2)] below meth c s₁ [] 0 0 := Stand.of_body Bd
  have e0 : s₁.heap = h0 := by rw [← hh, Bd.state]; rfl
  have N0 := Fr.nil n0
  have pre0 : ∀ t_, Steps p.tables e below (s₁.setTop (mkF m 0 #[.val (.ref a1), .val (.ref a2)] [])) t_ → Steps p.tables e below (s₁.setTop (entryFrame m #[(.ref a1), (.ref a2)] 2)) t_ := fun t_ k_ => castTop (ef_rmE2 m a1 a2) k_
  obtain ⟨T101, X101, e101, st101⟩ := instY X0 hx hZ hown (hw _ (List.mem_of_getElem? (i := 29) rfl)) e0 (Ins.self E_i) (g := (mkF m 1 #[.val (.ref a1), .val (.ref a2)] [(.ref a2)])) rfl rfl (hb hby d4_1)
  obtain ⟨T102, X102, e102, st102⟩ := getF X101 hx hZ hown (host := "") (Or.inl (hw _ (List.mem_of_getElem? (i := 16) rfl))) Via.refl e101 F0 (g := (mkF m 8 #[.val (.ref a1), .val (.ref a2)] [(.ref a1)])) rfl rfl (hb hby d4_8)
  obtain ⟨T103, X103, e103, st103⟩ := castY X102 hx hZ hown (hw _ (List.mem_of_getElem? (i := 29) rfl)) e102 (Ins.self E_i) (g := (mkF m 12 #[.val (.ref a1), .val (.ref a2)] [(.ref a2), (.long f1)])) rfl rfl (hb hby d4_12)
  obtain ⟨T104, X104, e104, st104⟩ := getF X103 hx hZ hown (host := "") (Or.inl (hw _ (List.mem_of_getElem? (i := 16) rfl))) Via.refl e103 G0 (g := (mkF m 15 #[.val (.ref a1), .val (.ref a2)] [(.ref a2), (.long f1)])) rfl rfl (hb hby d4_15)
  have pre105 : ∀ t_, Steps p.tables e below (T104.setTop (mkF m 19 #[.val (.ref a1), .val (.ref a2)] [(.int (lcmpW f1 f2))])) t_ → Steps p.tables e below (s₁.setTop (entryFrame m #[(.ref a1), (.ref a2)] 2)) t_ := fun t_ k_ => pre0 _ (by
    show Steps p.tables e below (s₁.setTop (mkF m 0 #[.val (.ref a1), .val (.ref a2)] [])) _
    refine XS.aloadN X0.here hx rfl (hb hby d4_0) rfl rfl ?_
    show Steps p.tables e below (s₁.setTop (mkF m 1 #[.val (.ref a1), .val (.ref a2)] [(.ref a2)])) _
    refine st101 _ ?_
    show Steps p.tables e below (T101.setTop (mkF m 4 #[.val (.ref a1), .val (.ref a2)] [(.int (1 : Int32))])) _
    refine XS.ifNo X101.here hx rfl (hb hby d4_4) rfl ((if0 _ _).trans (feq (by decide : ¬ (1 : Int32) = 0)).1) ?_
    show Steps p.tables e below (T101.setTop (mkF m 7 #[.val (.ref a1), .val (.ref a2)] [])) _
    refine XS.aloadN X101.here hx rfl (hb hby d4_7) rfl rfl ?_
    show Steps p.tables e below (T101.setTop (mkF m 8 #[.val (.ref a1), .val (.ref a2)] [(.ref a1)])) _
    refine st102 _ ?_
    show Steps p.tables e below (T102.setTop (mkF m 11 #[.val (.ref a1), .val (.ref a2)] [(.long f1)])) _
    refine XS.aloadN X102.here hx rfl (hb hby d4_11) rfl rfl ?_
    show Steps p.tables e below (T102.setTop (mkF m 12 #[.val (.ref a1), .val (.ref a2)] [(.ref a2), (.long f1)])) _
    refine st103 _ ?_
    show Steps p.tables e below (T103.setTop (mkF m 15 #[.val (.ref a1), .val (.ref a2)] [(.ref a2), (.long f1)])) _
    refine st104 _ ?_
    show Steps p.tables e below (T104.setTop (mkF m 18 #[.val (.ref a1), .val (.ref a2)] [(.long f2), (.long f1)])) _
    refine XS.lcmp X104.here hx rfl (hb hby d4_18) rfl ?_
    exact k_)
  by_cases hc0 : f1 = f2
  · skip
    obtain ⟨T106, X106, e106, st106⟩ := getF X104 hx hZ hown (host := "") (Or.inl (hw _ (List.mem_of_getElem? (i := 18) rfl))) Via.refl e104 F1 (g := (mkF m 23 #[.val (.ref a1), .val (.ref a2)] [(.ref a1)])) rfl rfl (hb hby d4_23)
    obtain ⟨T107, X107, e107, st107⟩ := castY X106 hx hZ hown (hw _ (List.mem_of_getElem? (i := 29) rfl)) e106 (Ins.self E_i) (g := (mkF m 27 #[.val (.ref a1), .val (.ref a2)] [(.ref a2), (.long l1)])) rfl rfl (hb hby d4_27)
    obtain ⟨T108, X108, e108, st108⟩ := getF X107 hx hZ hown (host := "") (Or.inl (hw _ (List.mem_of_getElem? (i := 18) rfl))) Via.refl e107 G1 (g := (mkF m 30 #[.val (.ref a1), .val (.ref a2)] [(.ref a2), (.long l1)])) rfl rfl (hb hby d4_30)
    have pre109 : ∀ t_, Steps p.tables e below (T108.setTop (mkF m 34 #[.val (.ref a1), .val (.ref a2)] [(.int (lcmpW l1 l2))])) t_ → Steps p.tables e below (s₁.setTop (entryFrame m #[(.ref a1), (.ref a2)] 2)) t_ := fun t_ k_ => pre105 _ (by
      show Steps p.tables e below (T104.setTop (mkF m 19 #[.val (.ref a1), .val (.ref a2)] [(.int (lcmpW f1 f2))])) _
      refine XS.ifNo X104.here hx rfl (hb hby d4_19) rfl ((if0 _ _).trans (teq ((lw_eq _ _).mpr hc0)).2) ?_
      show Steps p.tables e below (T104.setTop (mkF m 22 #[.val (.ref a1), .val (.ref a2)] [])) _
      refine XS.aloadN X104.here hx rfl (hb hby d4_22) rfl rfl ?_
      show Steps p.tables e below (T104.setTop (mkF m 23 #[.val (.ref a1), .val (.ref a2)] [(.ref a1)])) _
      refine st106 _ ?_
      show Steps p.tables e below (T106.setTop (mkF m 26 #[.val (.ref a1), .val (.ref a2)] [(.long l1)])) _
      refine XS.aloadN X106.here hx rfl (hb hby d4_26) rfl rfl ?_
      show Steps p.tables e below (T106.setTop (mkF m 27 #[.val (.ref a1), .val (.ref a2)] [(.ref a2), (.long l1)])) _
      refine st107 _ ?_
      show Steps p.tables e below (T107.setTop (mkF m 30 #[.val (.ref a1), .val (.ref a2)] [(.ref a2), (.long l1)])) _
      refine st108 _ ?_
      show Steps p.tables e below (T108.setTop (mkF m 33 #[.val (.ref a1), .val (.ref a2)] [(.long l2), (.long l1)])) _
      refine XS.lcmp X108.here hx rfl (hb hby d4_33) rfl ?_
      exact k_)
    by_cases hc1 : l1 = l2
    · skip
      obtain ⟨T110, X110, e110, st110⟩ := getF X108 hx hZ hown (host := "") (Or.inl (hw _ (List.mem_of_getElem? (i := 20) rfl))) Via.refl e108 F2 (g := (mkF m 38 #[.val (.ref a1), .val (.ref a2)] [(.ref a1)])) rfl rfl (hb hby d4_38)
      obtain ⟨T111, X111, e111, st111⟩ := castY X110 hx hZ hown (hw _ (List.mem_of_getElem? (i := 29) rfl)) e110 (Ins.self E_i) (g := (mkF m 42 #[.val (.ref a1), .val (.ref a2)] [(.ref a2), (.ref s1)])) rfl rfl (hb hby d4_42)
      obtain ⟨T112, X112, e112, st112⟩ := getF X111 hx hZ hown (host := "") (Or.inl (hw _ (List.mem_of_getElem? (i := 20) rfl))) Via.refl e111 G2 (g := (mkF m 45 #[.val (.ref a1), .val (.ref a2)] [(.ref a2), (.ref s1)])) rfl rfl (hb hby d4_45)
      have pre113 : ∀ t_, Steps p.tables e below (T112.setTop (mkF m 48 #[.val (.ref a1), .val (.ref a2)] [(.ref s2), (.ref s1)])) t_ → Steps p.tables e below (s₁.setTop (entryFrame m #[(.ref a1), (.ref a2)] 2)) t_ := fun t_ k_ => pre109 _ (by
        show Steps p.tables e below (T108.setTop (mkF m 34 #[.val (.ref a1), .val (.ref a2)] [(.int (lcmpW l1 l2))])) _
        refine XS.ifNo X108.here hx rfl (hb hby d4_34) rfl ((if0 _ _).trans (teq ((lw_eq _ _).mpr hc1)).2) ?_
        show Steps p.tables e below (T108.setTop (mkF m 37 #[.val (.ref a1), .val (.ref a2)] [])) _
        refine XS.aloadN X108.here hx rfl (hb hby d4_37) rfl rfl ?_
        show Steps p.tables e below (T108.setTop (mkF m 38 #[.val (.ref a1), .val (.ref a2)] [(.ref a1)])) _
        refine st110 _ ?_
        show Steps p.tables e below (T110.setTop (mkF m 41 #[.val (.ref a1), .val (.ref a2)] [(.ref s1)])) _
        refine XS.aloadN X110.here hx rfl (hb hby d4_41) rfl rfl ?_
        show Steps p.tables e below (T110.setTop (mkF m 42 #[.val (.ref a1), .val (.ref a2)] [(.ref a2), (.ref s1)])) _
        refine st111 _ ?_
        show Steps p.tables e below (T111.setTop (mkF m 45 #[.val (.ref a1), .val (.ref a2)] [(.ref a2), (.ref s1)])) _
        refine st112 _ ?_
        exact k_)
      by_cases hc2 : s1 = s2
      · skip
        obtain ⟨T114, X114, e114, st114⟩ := getF X112 hx hZ hown (host := "") (Or.inl (hw _ (List.mem_of_getElem? (i := 22) rfl))) Via.refl e112 F3 (g := (mkF m 52 #[.val (.ref a1), .val (.ref a2)] [(.ref a1)])) rfl rfl (hb hby d4_52)
        obtain ⟨T115, X115, e115, st115⟩ := castY X114 hx hZ hown (hw _ (List.mem_of_getElem? (i := 29) rfl)) e114 (Ins.self E_i) (g := (mkF m 56 #[.val (.ref a1), .val (.ref a2)] [(.ref a2), (.int d1)])) rfl rfl (hb hby d4_56)
        obtain ⟨T116, X116, e116, st116⟩ := getF X115 hx hZ hown (host := "") (Or.inl (hw _ (List.mem_of_getElem? (i := 22) rfl))) Via.refl e115 G3 (g := (mkF m 59 #[.val (.ref a1), .val (.ref a2)] [(.ref a2), (.int d1)])) rfl rfl (hb hby d4_59)
        have pre117 : ∀ t_, Steps p.tables e below (T116.setTop (mkF m 62 #[.val (.ref a1), .val (.ref a2)] [(.int d2), (.int d1)])) t_ → Steps p.tables e below (s₁.setTop (entryFrame m #[(.ref a1), (.ref a2)] 2)) t_ := fun t_ k_ => pre113 _ (by
          show Steps p.tables e below (T112.setTop (mkF m 48 #[.val (.ref a1), .val (.ref a2)] [(.ref s2), (.ref s1)])) _
          refine Jvm.RoadKit.acmp (g := (mkF m 48 #[.val (.ref a1), .val (.ref a2)] [(.ref s2), (.ref s1)])) X112 hx rfl rfl rfl (pc0 := 48) (pc' := 51) (same := true) rfl (hb hby d4_48) rfl (decide_eq_true (congrArg Value.ref hc2)) (by decide) (by decide) ?_
          show Steps p.tables e below (T112.setTop (mkF m 51 #[.val (.ref a1), .val (.ref a2)] [])) _
          refine XS.aloadN X112.here hx rfl (hb hby d4_51) rfl rfl ?_
          show Steps p.tables e below (T112.setTop (mkF m 52 #[.val (.ref a1), .val (.ref a2)] [(.ref a1)])) _
          refine st114 _ ?_
          show Steps p.tables e below (T114.setTop (mkF m 55 #[.val (.ref a1), .val (.ref a2)] [(.int d1)])) _
          refine XS.aloadN X114.here hx rfl (hb hby d4_55) rfl rfl ?_
          show Steps p.tables e below (T114.setTop (mkF m 56 #[.val (.ref a1), .val (.ref a2)] [(.ref a2), (.int d1)])) _
          refine st115 _ ?_
          show Steps p.tables e below (T115.setTop (mkF m 59 #[.val (.ref a1), .val (.ref a2)] [(.ref a2), (.int d1)])) _
          refine st116 _ ?_
          exact k_)
        by_cases hc3 : d1 = d2
        · skip
          have pre118 : ∀ t_, Steps p.tables e below (T116.setTop (mkF m 70 #[.val (.ref a1), .val (.ref a2)] [(.int (1 : Int32))])) t_ → Steps p.tables e below (s₁.setTop (entryFrame m #[(.ref a1), (.ref a2)] 2)) t_ := fun t_ k_ => pre117 _ (by
            show Steps p.tables e below (T116.setTop (mkF m 62 #[.val (.ref a1), .val (.ref a2)] [(.int d2), (.int d1)])) _
            refine XS.icmpNo X116.here hx rfl (hb hby d4_62) rfl (teq hc3).2 ?_
            show Steps p.tables e below (T116.setTop (mkF m 65 #[.val (.ref a1), .val (.ref a2)] [])) _
            refine XS.iconst X116.here hx rfl (hb hby d4_65) ?_
            show Steps p.tables e below (T116.setTop (mkF m 66 #[.val (.ref a1), .val (.ref a2)] [(.int (1 : Int32))])) _
            refine XS.goto X116.here hx rfl (pc0 := 66) (pc' := 70) rfl (hb hby d4_66) (by decide) (by decide) ?_
            exact k_)
          obtain ⟨fs, hr, hrun, hended, hW, hsame⟩ := X116.leave (v := some (.int (1 : Int32))) (fun h => by rw [Bd.returns] at h; cases h)
          refine ⟨_, _, pre118 _ ?_, hrun, hended, _, _, rfl, ?_, ⟨_, rfl⟩, hW, hsame.mono (by decide) (by decide)⟩
          · show Steps p.tables e below (T116.setTop (mkF m 70 #[.val (.ref a1), .val (.ref a2)] [(.int (1 : Int32))])) _
            exact retN X116 hx (t := .boolean) Bd.returns (by simp) (hb hby d4_70) hr
          · show QrmE2 Z a1 a2 f1 l1 s1 d1 f2 l2 s2 d2 h0 n0 _ T116.heap _
            rw [e116]
            exact ⟨by rw [own_eq4, if_pos hc0, if_pos hc1, if_pos hc2, if_pos hc3], N0, rfl⟩
        · skip
          have pre119 : ∀ t_, Steps p.tables e below (T116.setTop (mkF m 70 #[.val (.ref a1), .val (.ref a2)] [(.int (0 : Int32))])) t_ → Steps p.tables e below (s₁.setTop (entryFrame m #[(.ref a1), (.ref a2)] 2)) t_ := fun t_ k_ => pre117 _ (by
            show Steps p.tables e below (T116.setTop (mkF m 62 #[.val (.ref a1), .val (.ref a2)] [(.int d2), (.int d1)])) _
            refine XS.icmpYes X116.here hx rfl (pc0 := 62) (pc' := 69) rfl (hb hby d4_62) rfl (feq hc3).2 (by decide) (by decide) ?_
            show Steps p.tables e below (T116.setTop (mkF m 69 #[.val (.ref a1), .val (.ref a2)] [])) _
            refine XS.iconst X116.here hx rfl (hb hby d4_69) ?_
            exact k_)
          obtain ⟨fs, hr, hrun, hended, hW, hsame⟩ := X116.leave (v := some (.int (0 : Int32))) (fun h => by rw [Bd.returns] at h; cases h)
          refine ⟨_, _, pre119 _ ?_, hrun, hended, _, _, rfl, ?_, ⟨_, rfl⟩, hW, hsame.mono (by decide) (by decide)⟩
          · show Steps p.tables e below (T116.setTop (mkF m 70 #[.val (.ref a1), .val (.ref a2)] [(.int (0 : Int32))])) _
            exact retN X116 hx (t := .boolean) Bd.returns (by simp) (hb hby d4_70) hr
          · show QrmE2 Z a1 a2 f1 l1 s1 d1 f2 l2 s2 d2 h0 n0 _ T116.heap _
            rw [e116]
            exact ⟨by rw [own_eq4, if_pos hc0, if_pos hc1, if_pos hc2, if_neg hc3], N0, rfl⟩
      · skip
        have pre120 : ∀ t_, Steps p.tables e below (T112.setTop (mkF m 70 #[.val (.ref a1), .val (.ref a2)] [(.int (0 : Int32))])) t_ → Steps p.tables e below (s₁.setTop (entryFrame m #[(.ref a1), (.ref a2)] 2)) t_ := fun t_ k_ => pre113 _ (by
          show Steps p.tables e below (T112.setTop (mkF m 48 #[.val (.ref a1), .val (.ref a2)] [(.ref s2), (.ref s1)])) _
          refine Jvm.RoadKit.acmp (g := (mkF m 48 #[.val (.ref a1), .val (.ref a2)] [(.ref s2), (.ref s1)])) X112 hx rfl rfl rfl (pc0 := 48) (pc' := 69) (same := false) rfl (hb hby d4_48) rfl (decide_eq_false fun q => hc2 (Value.ref.inj q)) (by decide) (by decide) ?_
          show Steps p.tables e below (T112.setTop (mkF m 69 #[.val (.ref a1), .val (.ref a2)] [])) _
          refine XS.iconst X112.here hx rfl (hb hby d4_69) ?_
          exact k_)
        obtain ⟨fs, hr, hrun, hended, hW, hsame⟩ := X112.leave (v := some (.int (0 : Int32))) (fun h => by rw [Bd.returns] at h; cases h)
        refine ⟨_, _, pre120 _ ?_, hrun, hended, _, _, rfl, ?_, ⟨_, rfl⟩, hW, hsame.mono (by decide) (by decide)⟩
        · show Steps p.tables e below (T112.setTop (mkF m 70 #[.val (.ref a1), .val (.ref a2)] [(.int (0 : Int32))])) _
          exact retN X112 hx (t := .boolean) Bd.returns (by simp) (hb hby d4_70) hr
        · show QrmE2 Z a1 a2 f1 l1 s1 d1 f2 l2 s2 d2 h0 n0 _ T112.heap _
          rw [e112]
          exact ⟨by rw [own_eq4, if_pos hc0, if_pos hc1, if_neg hc2], N0, rfl⟩
    · skip
      have pre121 : ∀ t_, Steps p.tables e below (T108.setTop (mkF m 70 #[.val (.ref a1), .val (.ref a2)] [(.int (0 : Int32))])) t_ → Steps p.tables e below (s₁.setTop (entryFrame m #[(.ref a1), (.ref a2)] 2)) t_ := fun t_ k_ => pre109 _ (by
        show Steps p.tables e below (T108.setTop (mkF m 34 #[.val (.ref a1), .val (.ref a2)] [(.int (lcmpW l1 l2))])) _
        refine XS.ifYes X108.here hx rfl (pc0 := 34) (pc' := 69) rfl (hb hby d4_34) rfl ((if0 _ _).trans (feq (mt (lw_eq _ _).mp hc1)).2) (by decide) (by decide) ?_
        show Steps p.tables e below (T108.setTop (mkF m 69 #[.val (.ref a1), .val (.ref a2)] [])) _
        refine XS.iconst X108.here hx rfl (hb hby d4_69) ?_
        exact k_)
      obtain ⟨fs, hr, hrun, hended, hW, hsame⟩ := X108.leave (v := some (.int (0 : Int32))) (fun h => by rw [Bd.returns] at h; cases h)
      refine ⟨_, _, pre121 _ ?_, hrun, hended, _, _, rfl, ?_, ⟨_, rfl⟩, hW, hsame.mono (by decide) (by decide)⟩
      · show Steps p.tables e below (T108.setTop (mkF m 70 #[.val (.ref a1), .val (.ref a2)] [(.int (0 : Int32))])) _
        exact retN X108 hx (t := .boolean) Bd.returns (by simp) (hb hby d4_70) hr
      · show QrmE2 Z a1 a2 f1 l1 s1 d1 f2 l2 s2 d2 h0 n0 _ T108.heap _
        rw [e108]
        exact ⟨by rw [own_eq4, if_pos hc0, if_neg hc1], N0, rfl⟩
  · skip
    have pre122 : ∀ t_, Steps p.tables e below (T104.setTop (mkF m 70 #[.val (.ref a1), .val (.ref a2)] [(.int (0 : Int32))])) t_ → Steps p.tables e below (s₁.setTop (entryFrame m #[(.ref a1), (.ref a2)] 2)) t_ := fun t_ k_ => pre105 _ (by
      show Steps p.tables e below (T104.setTop (mkF m 19 #[.val (.ref a1), .val (.ref a2)] [(.int (lcmpW f1 f2))])) _
      refine XS.ifYes X104.here hx rfl (pc0 := 19) (pc' := 69) rfl (hb hby d4_19) rfl ((if0 _ _).trans (feq (mt (lw_eq _ _).mp hc0)).2) (by decide) (by decide) ?_
      show Steps p.tables e below (T104.setTop (mkF m 69 #[.val (.ref a1), .val (.ref a2)] [])) _
      refine XS.iconst X104.here hx rfl (hb hby d4_69) ?_
      exact k_)
    obtain ⟨fs, hr, hrun, hended, hW, hsame⟩ := X104.leave (v := some (.int (0 : Int32))) (fun h => by rw [Bd.returns] at h; cases h)
    refine ⟨_, _, pre122 _ ?_, hrun, hended, _, _, rfl, ?_, ⟨_, rfl⟩, hW, hsame.mono (by decide) (by decide)⟩
    · show Steps p.tables e below (T104.setTop (mkF m 70 #[.val (.ref a1), .val (.ref a2)] [(.int (0 : Int32))])) _
      exact retN X104 hx (t := .boolean) Bd.returns (by simp) (hb hby d4_70) hr
    · show QrmE2 Z a1 a2 f1 l1 s1 d1 f2 l2 s2 d2 h0 n0 _ T104.heap _
      rw [e104]
      exact ⟨by rw [own_eq4, if_neg hc0], N0, rfl⟩
theorem pd_2 : parseMethodDescriptor "(I)Lcom/example/termite/termite/broker/RecordState;" = some ⟨[.int], some (.object "com/example/termite/termite/broker/RecordState")⟩ := by decide +kernel
theorem pd_3 : parseMethodDescriptor "(JJLcom/example/termite/termite/broker/RecordState;S)V" = some ⟨[.long, .long, (.object "com/example/termite/termite/broker/RecordState"), .short], none⟩ := by decide +kernel
theorem pd_4 : parseMethodDescriptor "(Ljava/lang/Object;)Z" = some ⟨[(.object "java/lang/Object")], some .boolean⟩ := by decide +kernel
theorem pd_5 : parseMethodDescriptor "(I)Ljava/lang/Integer;" = some ⟨[.int], some (.object "java/lang/Integer")⟩ := by decide +kernel
theorem ef_rm0 (m : MethodId) (x0 : Int64) (x1 : Int64) (x2 : Int64) (x3 : Int64) (x4 : Int32) (x5 : Int32) : entryFrame m #[(.long x0), (.long x1), (.long x2), (.long x3), (.int x4), (.int x5)] maxLocals = mkF m 0 #[.val (.long x0), .second, .val (.long x1), .second, .val (.long x2), .second, .val (.long x3), .second, .val (.int x4), .val (.int x5), .unset, .unset, .unset, .unset, .unset, .unset, .unset, .unset, .unset, .unset, .unset, .unset, .unset, .unset, .unset, .unset, .unset, .unset, .unset] [] := by first | (simp [entryFrame, mkF, argsToLocals, Value.category, maxLocals]; done) | rfl
def Qrm0 (Z : State) (q1 : Int64) (q2 : Int64) (q3 : Int64) (q4 : Int64) (p5 : Int32) (p6 : Int32) (ca : Addr) (cc : Cell) (aV : Addr) (aQ : Addr) (aK : Addr) (aR : Addr) (h0 : Heap) (n0 : Nat) (v : Option Value) (h : Heap) (L : List Loc) : Prop := v = some (.int 1) ∧ Fr n0 L
set_option maxRecDepth 65536 in
set_option maxHeartbeats 40000000 in
theorem rm0 (l : Launch) (Z : State) (a0 : Array Value) (hw : ∀ d ∈ tables_1, d.before a0 Z = true) (ws : List Jvm.Cond) (q1 : Int64) (q2 : Int64) (q3 : Int64) (q4 : Int64) (p5 : Int32) (p6 : Int32) (ca : Addr) (cc : Cell) (aV : Addr) (aQ : Addr) (aK : Addr) (aR : Addr) (h0 : Heap) (n0 : Nat) (Z0 : n0 ≤ h0.size) (O : Old Z n0 h0) (S_high : Sta Z Z.heap "java/lang/Integer$IntegerCache" "high" "I" (.int (127 : Int32))) (S_cache : Sta Z Z.heap "java/lang/Integer$IntegerCache" "cache" "[Ljava/lang/Integer;" (.ref ca)) (B_c : Bxs Z ca cc "java/lang/Integer" "I" 256 (fun j => .int (j - 128))) (S_V : Sta Z h0 "com/example/termite/termite/broker/RecordState" "AVAILABLE" "Lcom/example/termite/termite/broker/RecordState;" (.ref aV)) (S_Q : Sta Z h0 "com/example/termite/termite/broker/RecordState" "ACQUIRED" "Lcom/example/termite/termite/broker/RecordState;" (.ref aQ)) (S_K : Sta Z h0 "com/example/termite/termite/broker/RecordState" "ACKNOWLEDGED" "Lcom/example/termite/termite/broker/RecordState;" (.ref aK)) (S_R : Sta Z h0 "com/example/termite/termite/broker/RecordState" "ARCHIVED" "Lcom/example/termite/termite/broker/RecordState;" (.ref aR)) :
    MetFree l x (head1 (Jvm.Cond.code x code maxLocals ret :: ws) room_1) (fun a U => a = #[(.long q1), (.long q2), (.long q3), (.long q4), (.int p5), (.int p6)] ∧ Z.Warmed39 U.vm ∧ U.heap = h0) (fun _ _ _ _ _ => True) (fun _ U o U' => ∃ v L, o = .returned v ∧ Qrm0 Z q1 q2 q3 q4 p5 p6 ca cc aV aQ aK aR h0 n0 v U'.heap L ∧ FrameEnd U o U' L room_1.cells room_1.slots) := by
  refine MetFree.of_bodySF (plainFor_of_name pn_2) hisR ?_
  intro p e s m args below meth c s₁ Bd hml0 hP hK
  obtain ⟨rfl, hZ, hh⟩ := hP
  have hx := Bd.exec
  have hby := Bd.bytes
  have hml : c.maxLocals = 29 := hml0
  have hown : s.vm.findClass "com/example/termite/termite/broker/RangeEqualsPinLaw" = some m.cls := findClass_of_methodNamed Bd.named
  have hnm := (name_of_methodNamed Bd.named Bd.method).1
  have X0 : Stand p l e room_1 s m #[(.long q1), (.long q2), (.long q3), (.long q4), (.int p5), (.int p6)] below meth c s₁ [] 0 0 := Stand.of_body Bd
  have e0 : s₁.heap = h0 := by rw [← hh, Bd.state]; rfl
  have N0 := Fr.nil n0
  have pre0 : ∀ t_, Steps p.tables e below (s₁.setTop (mkF m 0 #[.val (.long q1), .second, .val (.long q2), .second, .val (.long q3), .second, .val (.long q4), .second, .val (.int p5), .val (.int p6), .unset, .unset, .unset, .unset, .unset, .unset, .unset, .unset, .unset, .unset, .unset, .unset, .unset, .unset, .unset, .unset, .unset, .unset, .unset] [])) t_ → Steps p.tables e below (s₁.setTop (entryFrame m #[(.long q1), (.long q2), (.long q3), (.long q4), (.int p5), (.int p6)] maxLocals)) t_ := fun t_ k_ => castTop (ef_rm0 m q1 q2 q3 q4 p5 p6) k_
  have pre101 : ∀ t_, Steps p.tables e below (s₁.setTop (mkF m 4 #[.val (.long q1), .second, .val (.long q2), .second, .val (.long q3), .second, .val (.long q4), .second, .val (.int p5), .val (.int p6), .unset, .unset, .unset, .unset, .unset, .unset, .unset, .unset, .unset, .unset, .unset, .unset, .unset, .unset, .unset, .unset, .unset, .unset, .unset] [(.int (p5 &&& (1 : Int32)))])) t_ → Steps p.tables e below (s₁.setTop (entryFrame m #[(.long q1), (.long q2), (.long q3), (.long q4), (.int p5), (.int p6)] maxLocals)) t_ := fun t_ k_ => pre0 _ (by
    show Steps p.tables e below (s₁.setTop (mkF m 0 #[.val (.long q1), .second, .val (.long q2), .second, .val (.long q3), .second, .val (.long q4), .second, .val (.int p5), .val (.int p6), .unset, .unset, .unset, .unset, .unset, .unset, .unset, .unset, .unset, .unset, .unset, .unset, .unset, .unset, .unset, .unset, .unset, .unset, .unset] [])) _
    refine XS.iload X0.here hx rfl (hb hby at_0) rfl ?_
    show Steps p.tables e below (s₁.setTop (mkF m 2 #[.val (.long q1), .second, .val (.long q2), .second, .val (.long q3), .second, .val (.long q4), .second, .val (.int p5), .val (.int p6), .unset, .unset, .unset, .unset, .unset, .unset, .unset, .unset, .unset, .unset, .unset, .unset, .unset, .unset, .unset, .unset, .unset, .unset, .unset] [(.int p5)])) _
    refine XS.iconst X0.here hx rfl (hb hby at_2) ?_
    show Steps p.tables e below (s₁.setTop (mkF m 3 #[.val (.long q1), .second, .val (.long q2), .second, .val (.long q3), .second, .val (.long q4), .second, .val (.int p5), .val (.int p6), .unset, .unset, .unset, .unset, .unset, .unset, .unset, .unset, .unset, .unset, .unset, .unset, .unset, .unset, .unset, .unset, .unset, .unset, .unset] [(.int (1 : Int32)), (.int p5)])) _
    refine XS.iand X0.here hx rfl (hb hby at_3) rfl ?_
    exact k_)
  obtain ⟨z1, hj_z1, pre102⟩ : ∃ z1 : Int32, (True) ∧ ∀ t_, Steps p.tables e below (s₁.setTop (mkF m 12 #[.val (.long q1), .second, .val (.long q2), .second, .val (.long q3), .second, .val (.long q4), .second, .val (.int p5), .val (.int p6), .unset, .unset, .unset, .unset, .unset, .unset, .unset, .unset, .unset, .unset, .unset, .unset, .unset, .unset, .unset, .unset, .unset, .unset, .unset] [(.int z1)])) t_ → Steps p.tables e below (s₁.setTop (entryFrame m #[(.long q1), (.long q2), (.long q3), (.long q4), (.int p5), (.int p6)] maxLocals)) t_ := by
    by_cases hf : (p5 &&& (1 : Int32)) = (0 : Int32)
    · skip
      have pre103 : ∀ t_, Steps p.tables e below (s₁.setTop (mkF m 12 #[.val (.long q1), .second, .val (.long q2), .second, .val (.long q3), .second, .val (.long q4), .second, .val (.int p5), .val (.int p6), .unset, .unset, .unset, .unset, .unset, .unset, .unset, .unset, .unset, .unset, .unset, .unset, .unset, .unset, .unset, .unset, .unset, .unset, .unset] [(.int (0 : Int32))])) t_ → Steps p.tables e below (s₁.setTop (entryFrame m #[(.long q1), (.long q2), (.long q3), (.long q4), (.int p5), (.int p6)] maxLocals)) t_ := fun t_ k_ => pre101 _ (by
        show Steps p.tables e below (s₁.setTop (mkF m 4 #[.val (.long q1), .second, .val (.long q2), .second, .val (.long q3), .second, .val (.long q4), .second, .val (.int p5), .val (.int p6), .unset, .unset, .unset, .unset, .unset, .unset, .unset, .unset, .unset, .unset, .unset, .unset, .unset, .unset, .unset, .unset, .unset, .unset, .unset] [(.int (p5 &&& (1 : Int32)))])) _
        refine XS.ifYes X0.here hx rfl (pc0 := 4) (pc' := 11) rfl (hb hby at_4) rfl ((if0 _ _).trans (teq hf).1) (by decide) (by decide) ?_
        show Steps p.tables e below (s₁.setTop (mkF m 11 #[.val (.long q1), .second, .val (.long q2), .second, .val (.long q3), .second, .val (.long q4), .second, .val (.int p5), .val (.int p6), .unset, .unset, .unset, .unset, .unset, .unset, .unset, .unset, .unset, .unset, .unset, .unset, .unset, .unset, .unset, .unset, .unset, .unset, .unset] [])) _
        refine XS.iconst X0.here hx rfl (hb hby at_11) ?_
        exact k_)
      exact ⟨(0 : Int32), trivial, pre103⟩
    · skip
      have pre104 : ∀ t_, Steps p.tables e below (s₁.setTop (mkF m 12 #[.val (.long q1), .second, .val (.long q2), .second, .val (.long q3), .second, .val (.long q4), .second, .val (.int p5), .val (.int p6), .unset, .unset, .unset, .unset, .unset, .unset, .unset, .unset, .unset, .unset, .unset, .unset, .unset, .unset, .unset, .unset, .unset, .unset, .unset] [(.int (1 : Int32))])) t_ → Steps p.tables e below (s₁.setTop (entryFrame m #[(.long q1), (.long q2), (.long q3), (.long q4), (.int p5), (.int p6)] maxLocals)) t_ := fun t_ k_ => pre101 _ (by
        show Steps p.tables e below (s₁.setTop (mkF m 4 #[.val (.long q1), .second, .val (.long q2), .second, .val (.long q3), .second, .val (.long q4), .second, .val (.int p5), .val (.int p6), .unset, .unset, .unset, .unset, .unset, .unset, .unset, .unset, .unset, .unset, .unset, .unset, .unset, .unset, .unset, .unset, .unset, .unset, .unset] [(.int (p5 &&& (1 : Int32)))])) _
        refine XS.ifNo X0.here hx rfl (hb hby at_4) rfl ((if0 _ _).trans (feq hf).1) ?_
        show Steps p.tables e below (s₁.setTop (mkF m 7 #[.val (.long q1), .second, .val (.long q2), .second, .val (.long q3), .second, .val (.long q4), .second, .val (.int p5), .val (.int p6), .unset, .unset, .unset, .unset, .unset, .unset, .unset, .unset, .unset, .unset, .unset, .unset, .unset, .unset, .unset, .unset, .unset, .unset, .unset] [])) _
        refine XS.iconst X0.here hx rfl (hb hby at_7) ?_
        show Steps p.tables e below (s₁.setTop (mkF m 8 #[.val (.long q1), .second, .val (.long q2), .second, .val (.long q3), .second, .val (.long q4), .second, .val (.int p5), .val (.int p6), .unset, .unset, .unset, .unset, .unset, .unset, .unset, .unset, .unset, .unset, .unset, .unset, .unset, .unset, .unset, .unset, .unset, .unset, .unset] [(.int (1 : Int32))])) _
        refine XS.goto X0.here hx rfl (pc0 := 8) (pc' := 12) rfl (hb hby at_8) (by decide) (by decide) ?_
        exact k_)
      exact ⟨(1 : Int32), trivial, pre104⟩
  have pre105 : ∀ t_, Steps p.tables e below (s₁.setTop (mkF m 18 #[.val (.long q1), .second, .val (.long q2), .second, .val (.long q3), .second, .val (.long q4), .second, .val (.int p5), .val (.int p6), .val (.int z1), .unset, .unset, .unset, .unset, .unset, .unset, .unset, .unset, .unset, .unset, .unset, .unset, .unset, .unset, .unset, .unset, .unset, .unset] [(.int (p5 &&& (2 : Int32)))])) t_ → Steps p.tables e below (s₁.setTop (entryFrame m #[(.long q1), (.long q2), (.long q3), (.long q4), (.int p5), (.int p6)] maxLocals)) t_ := fun t_ k_ => pre102 _ (by
    show Steps p.tables e below (s₁.setTop (mkF m 12 #[.val (.long q1), .second, .val (.long q2), .second, .val (.long q3), .second, .val (.long q4), .second, .val (.int p5), .val (.int p6), .unset, .unset, .unset, .unset, .unset, .unset, .unset, .unset, .unset, .unset, .unset, .unset, .unset, .unset, .unset, .unset, .unset, .unset, .unset] [(.int z1)])) _
    refine XS.istore X0.here hx rfl (hb hby at_12) rfl (l' := #[.val (.long q1), .second, .val (.long q2), .second, .val (.long q3), .second, .val (.long q4), .second, .val (.int p5), .val (.int p6), .val (.int z1), .unset, .unset, .unset, .unset, .unset, .unset, .unset, .unset, .unset, .unset, .unset, .unset, .unset, .unset, .unset, .unset, .unset, .unset]) rfl ?_
    show Steps p.tables e below (s₁.setTop (mkF m 14 #[.val (.long q1), .second, .val (.long q2), .second, .val (.long q3), .second, .val (.long q4), .second, .val (.int p5), .val (.int p6), .val (.int z1), .unset, .unset, .unset, .unset, .unset, .unset, .unset, .unset, .unset, .unset, .unset, .unset, .unset, .unset, .unset, .unset, .unset, .unset] [])) _
    refine XS.iload X0.here hx rfl (hb hby at_14) rfl ?_
    show Steps p.tables e below (s₁.setTop (mkF m 16 #[.val (.long q1), .second, .val (.long q2), .second, .val (.long q3), .second, .val (.long q4), .second, .val (.int p5), .val (.int p6), .val (.int z1), .unset, .unset, .unset, .unset, .unset, .unset, .unset, .unset, .unset, .unset, .unset, .unset, .unset, .unset, .unset, .unset, .unset, .unset] [(.int p5)])) _
    refine XS.iconst X0.here hx rfl (hb hby at_16) ?_
    show Steps p.tables e below (s₁.setTop (mkF m 17 #[.val (.long q1), .second, .val (.long q2), .second, .val (.long q3), .second, .val (.long q4), .second, .val (.int p5), .val (.int p6), .val (.int z1), .unset, .unset, .unset, .unset, .unset, .unset, .unset, .unset, .unset, .unset, .unset, .unset, .unset, .unset, .unset, .unset, .unset, .unset] [(.int (2 : Int32)), (.int p5)])) _
    refine XS.iand X0.here hx rfl (hb hby at_17) rfl ?_
    exact k_)
  obtain ⟨z2, hj_z2, pre106⟩ : ∃ z2 : Int32, (True) ∧ ∀ t_, Steps p.tables e below (s₁.setTop (mkF m 26 #[.val (.long q1), .second, .val (.long q2), .second, .val (.long q3), .second, .val (.long q4), .second, .val (.int p5), .val (.int p6), .val (.int z1), .unset, .unset, .unset, .unset, .unset, .unset, .unset, .unset, .unset, .unset, .unset, .unset, .unset, .unset, .unset, .unset, .unset, .unset] [(.int z2)])) t_ → Steps p.tables e below (s₁.setTop (entryFrame m #[(.long q1), (.long q2), (.long q3), (.long q4), (.int p5), (.int p6)] maxLocals)) t_ := by
    by_cases hf : (p5 &&& (2 : Int32)) = (0 : Int32)
    · skip
      have pre107 : ∀ t_, Steps p.tables e below (s₁.setTop (mkF m 26 #[.val (.long q1), .second, .val (.long q2), .second, .val (.long q3), .second, .val (.long q4), .second, .val (.int p5), .val (.int p6), .val (.int z1), .unset, .unset, .unset, .unset, .unset, .unset, .unset, .unset, .unset, .unset, .unset, .unset, .unset, .unset, .unset, .unset, .unset, .unset] [(.int (0 : Int32))])) t_ → Steps p.tables e below (s₁.setTop (entryFrame m #[(.long q1), (.long q2), (.long q3), (.long q4), (.int p5), (.int p6)] maxLocals)) t_ := fun t_ k_ => pre105 _ (by
        show Steps p.tables e below (s₁.setTop (mkF m 18 #[.val (.long q1), .second, .val (.long q2), .second, .val (.long q3), .second, .val (.long q4), .second, .val (.int p5), .val (.int p6), .val (.int z1), .unset, .unset, .unset, .unset, .unset, .unset, .unset, .unset, .unset, .unset, .unset, .unset, .unset, .unset, .unset, .unset, .unset, .unset] [(.int (p5 &&& (2 : Int32)))])) _
        refine XS.ifYes X0.here hx rfl (pc0 := 18) (pc' := 25) rfl (hb hby at_18) rfl ((if0 _ _).trans (teq hf).1) (by decide) (by decide) ?_
        show Steps p.tables e below (s₁.setTop (mkF m 25 #[.val (.long q1), .second, .val (.long q2), .second, .val (.long q3), .second, .val (.long q4), .second, .val (.int p5), .val (.int p6), .val (.int z1), .unset, .unset, .unset, .unset, .unset, .unset, .unset, .unset, .unset, .unset, .unset, .unset, .unset, .unset, .unset, .unset, .unset, .unset] [])) _
        refine XS.iconst X0.here hx rfl (hb hby at_25) ?_
        exact k_)
      exact ⟨(0 : Int32), trivial, pre107⟩
    · skip
      have pre108 : ∀ t_, Steps p.tables e below (s₁.setTop (mkF m 26 #[.val (.long q1), .second, .val (.long q2), .second, .val (.long q3), .second, .val (.long q4), .second, .val (.int p5), .val (.int p6), .val (.int z1), .unset, .unset, .unset, .unset, .unset, .unset, .unset, .unset, .unset, .unset, .unset, .unset, .unset, .unset, .unset, .unset, .unset, .unset] [(.int (1 : Int32))])) t_ → Steps p.tables e below (s₁.setTop (entryFrame m #[(.long q1), (.long q2), (.long q3), (.long q4), (.int p5), (.int p6)] maxLocals)) t_ := fun t_ k_ => pre105 _ (by
        show Steps p.tables e below (s₁.setTop (mkF m 18 #[.val (.long q1), .second, .val (.long q2), .second, .val (.long q3), .second, .val (.long q4), .second, .val (.int p5), .val (.int p6), .val (.int z1), .unset, .unset, .unset, .unset, .unset, .unset, .unset, .unset, .unset, .unset, .unset, .unset, .unset, .unset, .unset, .unset, .unset, .unset] [(.int (p5 &&& (2 : Int32)))])) _
        refine XS.ifNo X0.here hx rfl (hb hby at_18) rfl ((if0 _ _).trans (feq hf).1) ?_
        show Steps p.tables e below (s₁.setTop (mkF m 21 #[.val (.long q1), .second, .val (.long q2), .second, .val (.long q3), .second, .val (.long q4), .second, .val (.int p5), .val (.int p6), .val (.int z1), .unset, .unset, .unset, .unset, .unset, .unset, .unset, .unset, .unset, .unset, .unset, .unset, .unset, .unset, .unset, .unset, .unset, .unset] [])) _
        refine XS.iconst X0.here hx rfl (hb hby at_21) ?_
        show Steps p.tables e below (s₁.setTop (mkF m 22 #[.val (.long q1), .second, .val (.long q2), .second, .val (.long q3), .second, .val (.long q4), .second, .val (.int p5), .val (.int p6), .val (.int z1), .unset, .unset, .unset, .unset, .unset, .unset, .unset, .unset, .unset, .unset, .unset, .unset, .unset, .unset, .unset, .unset, .unset, .unset] [(.int (1 : Int32))])) _
        refine XS.goto X0.here hx rfl (pc0 := 22) (pc' := 26) rfl (hb hby at_22) (by decide) (by decide) ?_
        exact k_)
      exact ⟨(1 : Int32), trivial, pre108⟩
  have pre109 : ∀ t_, Steps p.tables e below (s₁.setTop (mkF m 32 #[.val (.long q1), .second, .val (.long q2), .second, .val (.long q3), .second, .val (.long q4), .second, .val (.int p5), .val (.int p6), .val (.int z1), .val (.int z2), .unset, .unset, .unset, .unset, .unset, .unset, .unset, .unset, .unset, .unset, .unset, .unset, .unset, .unset, .unset, .unset, .unset] [(.int (p5 &&& (4 : Int32)))])) t_ → Steps p.tables e below (s₁.setTop (entryFrame m #[(.long q1), (.long q2), (.long q3), (.long q4), (.int p5), (.int p6)] maxLocals)) t_ := fun t_ k_ => pre106 _ (by
    show Steps p.tables e below (s₁.setTop (mkF m 26 #[.val (.long q1), .second, .val (.long q2), .second, .val (.long q3), .second, .val (.long q4), .second, .val (.int p5), .val (.int p6), .val (.int z1), .unset, .unset, .unset, .unset, .unset, .unset, .unset, .unset, .unset, .unset, .unset, .unset, .unset, .unset, .unset, .unset, .unset, .unset] [(.int z2)])) _
    refine XS.istore X0.here hx rfl (hb hby at_26) rfl (l' := #[.val (.long q1), .second, .val (.long q2), .second, .val (.long q3), .second, .val (.long q4), .second, .val (.int p5), .val (.int p6), .val (.int z1), .val (.int z2), .unset, .unset, .unset, .unset, .unset, .unset, .unset, .unset, .unset, .unset, .unset, .unset, .unset, .unset, .unset, .unset, .unset]) rfl ?_
    show Steps p.tables e below (s₁.setTop (mkF m 28 #[.val (.long q1), .second, .val (.long q2), .second, .val (.long q3), .second, .val (.long q4), .second, .val (.int p5), .val (.int p6), .val (.int z1), .val (.int z2), .unset, .unset, .unset, .unset, .unset, .unset, .unset, .unset, .unset, .unset, .unset, .unset, .unset, .unset, .unset, .unset, .unset] [])) _
    refine XS.iload X0.here hx rfl (hb hby at_28) rfl ?_
    show Steps p.tables e below (s₁.setTop (mkF m 30 #[.val (.long q1), .second, .val (.long q2), .second, .val (.long q3), .second, .val (.long q4), .second, .val (.int p5), .val (.int p6), .val (.int z1), .val (.int z2), .unset, .unset, .unset, .unset, .unset, .unset, .unset, .unset, .unset, .unset, .unset, .unset, .unset, .unset, .unset, .unset, .unset] [(.int p5)])) _
    refine XS.iconst X0.here hx rfl (hb hby at_30) ?_
    show Steps p.tables e below (s₁.setTop (mkF m 31 #[.val (.long q1), .second, .val (.long q2), .second, .val (.long q3), .second, .val (.long q4), .second, .val (.int p5), .val (.int p6), .val (.int z1), .val (.int z2), .unset, .unset, .unset, .unset, .unset, .unset, .unset, .unset, .unset, .unset, .unset, .unset, .unset, .unset, .unset, .unset, .unset] [(.int (4 : Int32)), (.int p5)])) _
    refine XS.iand X0.here hx rfl (hb hby at_31) rfl ?_
    exact k_)
  obtain ⟨z3, hj_z3, pre110⟩ : ∃ z3 : Int32, (True) ∧ ∀ t_, Steps p.tables e below (s₁.setTop (mkF m 40 #[.val (.long q1), .second, .val (.long q2), .second, .val (.long q3), .second, .val (.long q4), .second, .val (.int p5), .val (.int p6), .val (.int z1), .val (.int z2), .unset, .unset, .unset, .unset, .unset, .unset, .unset, .unset, .unset, .unset, .unset, .unset, .unset, .unset, .unset, .unset, .unset] [(.int z3)])) t_ → Steps p.tables e below (s₁.setTop (entryFrame m #[(.long q1), (.long q2), (.long q3), (.long q4), (.int p5), (.int p6)] maxLocals)) t_ := by
    by_cases hf : (p5 &&& (4 : Int32)) = (0 : Int32)
    · skip
      have pre111 : ∀ t_, Steps p.tables e below (s₁.setTop (mkF m 40 #[.val (.long q1), .second, .val (.long q2), .second, .val (.long q3), .second, .val (.long q4), .second, .val (.int p5), .val (.int p6), .val (.int z1), .val (.int z2), .unset, .unset, .unset, .unset, .unset, .unset, .unset, .unset, .unset, .unset, .unset, .unset, .unset, .unset, .unset, .unset, .unset] [(.int (0 : Int32))])) t_ → Steps p.tables e below (s₁.setTop (entryFrame m #[(.long q1), (.long q2), (.long q3), (.long q4), (.int p5), (.int p6)] maxLocals)) t_ := fun t_ k_ => pre109 _ (by
        show Steps p.tables e below (s₁.setTop (mkF m 32 #[.val (.long q1), .second, .val (.long q2), .second, .val (.long q3), .second, .val (.long q4), .second, .val (.int p5), .val (.int p6), .val (.int z1), .val (.int z2), .unset, .unset, .unset, .unset, .unset, .unset, .unset, .unset, .unset, .unset, .unset, .unset, .unset, .unset, .unset, .unset, .unset] [(.int (p5 &&& (4 : Int32)))])) _
        refine XS.ifYes X0.here hx rfl (pc0 := 32) (pc' := 39) rfl (hb hby at_32) rfl ((if0 _ _).trans (teq hf).1) (by decide) (by decide) ?_
        show Steps p.tables e below (s₁.setTop (mkF m 39 #[.val (.long q1), .second, .val (.long q2), .second, .val (.long q3), .second, .val (.long q4), .second, .val (.int p5), .val (.int p6), .val (.int z1), .val (.int z2), .unset, .unset, .unset, .unset, .unset, .unset, .unset, .unset, .unset, .unset, .unset, .unset, .unset, .unset, .unset, .unset, .unset] [])) _
        refine XS.iconst X0.here hx rfl (hb hby at_39) ?_
        exact k_)
      exact ⟨(0 : Int32), trivial, pre111⟩
    · skip
      have pre112 : ∀ t_, Steps p.tables e below (s₁.setTop (mkF m 40 #[.val (.long q1), .second, .val (.long q2), .second, .val (.long q3), .second, .val (.long q4), .second, .val (.int p5), .val (.int p6), .val (.int z1), .val (.int z2), .unset, .unset, .unset, .unset, .unset, .unset, .unset, .unset, .unset, .unset, .unset, .unset, .unset, .unset, .unset, .unset, .unset] [(.int (1 : Int32))])) t_ → Steps p.tables e below (s₁.setTop (entryFrame m #[(.long q1), (.long q2), (.long q3), (.long q4), (.int p5), (.int p6)] maxLocals)) t_ := fun t_ k_ => pre109 _ (by
        show Steps p.tables e below (s₁.setTop (mkF m 32 #[.val (.long q1), .second, .val (.long q2), .second, .val (.long q3), .second, .val (.long q4), .second, .val (.int p5), .val (.int p6), .val (.int z1), .val (.int z2), .unset, .unset, .unset, .unset, .unset, .unset, .unset, .unset, .unset, .unset, .unset, .unset, .unset, .unset, .unset, .unset, .unset] [(.int (p5 &&& (4 : Int32)))])) _
        refine XS.ifNo X0.here hx rfl (hb hby at_32) rfl ((if0 _ _).trans (feq hf).1) ?_
        show Steps p.tables e below (s₁.setTop (mkF m 35 #[.val (.long q1), .second, .val (.long q2), .second, .val (.long q3), .second, .val (.long q4), .second, .val (.int p5), .val (.int p6), .val (.int z1), .val (.int z2), .unset, .unset, .unset, .unset, .unset, .unset, .unset, .unset, .unset, .unset, .unset, .unset, .unset, .unset, .unset, .unset, .unset] [])) _
        refine XS.iconst X0.here hx rfl (hb hby at_35) ?_
        show Steps p.tables e below (s₁.setTop (mkF m 36 #[.val (.long q1), .second, .val (.long q2), .second, .val (.long q3), .second, .val (.long q4), .second, .val (.int p5), .val (.int p6), .val (.int z1), .val (.int z2), .unset, .unset, .unset, .unset, .unset, .unset, .unset, .unset, .unset, .unset, .unset, .unset, .unset, .unset, .unset, .unset, .unset] [(.int (1 : Int32))])) _
        refine XS.goto X0.here hx rfl (pc0 := 36) (pc' := 40) rfl (hb hby at_36) (by decide) (by decide) ?_
        exact k_)
      exact ⟨(1 : Int32), trivial, pre112⟩
  obtain ⟨_, _, ⟨T113, L113, k113, n113⟩, -, X113, ⟨Lc113, hQ113, l113, y113, z113⟩, st113⟩ := Jvm.LawKit.callS X0 hx (y := (⟨"com/example/termite/termite/broker/RangeEqualsPinLaw", "pick", "(I)Lcom/example/termite/termite/broker/RecordState;"⟩ : MethodName)) hown (mvT hZ (hw _ (List.mem_of_getElem? (i := 0) rfl))) (mvT hZ (hw _ (List.mem_of_getElem? (i := 1) rfl))) (mvT hZ (hw _ (List.mem_of_getElem? (i := 2) rfl))) (mvT hZ (hw _ (List.mem_of_getElem? (i := 3) rfl))) (by decide) (backOf (W := 0) (rmP l Z a0 hw [] (((p5.toUInt32 >>> ((3 : Int32) &&& 31).toUInt32).toInt32) &&& (3 : Int32)) aV aQ aK aR h0 n0 Z0 S_V S_Q S_K S_R) hZ (hw _ (List.mem_of_getElem? (i := 3) rfl)) (hw _ (List.mem_of_getElem? (i := 2) rfl)) (by decide) (by decide)) (g := (mkF m 48 #[.val (.long q1), .second, .val (.long q2), .second, .val (.long q3), .second, .val (.long q4), .second, .val (.int p5), .val (.int p6), .val (.int z1), .val (.int z2), .val (.int z3), .unset, .unset, .unset, .unset, .unset, .unset, .unset, .unset, .unset, .unset, .unset, .unset, .unset, .unset, .unset, .unset] [(.int (((p5.toUInt32 >>> ((3 : Int32) &&& 31).toUInt32).toInt32) &&& (3 : Int32)))])) rfl (by rw [hml]; rfl) (argsL := [(.int (((p5.toUInt32 >>> ((3 : Int32) &&& 31).toUInt32).toInt32) &&& (3 : Int32)))]) (rest := []) (lenOf pd_2 rfl) rfl (by show 2 * 0 + _ ≤ _; exact Nat.le_of_eq rfl) (hb hby at_48) (fun _ _ => ⟨rfl, e0, (by decide : 0 + 0 ≤ _), (by decide : 0 + 0 ≤ _)⟩)
  dsimp only [Pt.U, Pt.locs, Pt.cells, Pt.slots] at X113 l113 y113 z113 st113 hQ113
  subst l113 y113 z113
  obtain ⟨rfl, N113q, e113⟩ := hQ113
  have N113 := Fr.app N0 N113q
  obtain ⟨t1, hv_t1, pre114⟩ : ∃ z_ : Addr, z_ = (own_pick (((p5.toUInt32 >>> ((3 : Int32) &&& 31).toUInt32).toInt32) &&& (3 : Int32)) aV aQ aK aR) ∧ ∀ t_, Steps p.tables e below (T113.setTop (mkF m 51 #[.val (.long q1), .second, .val (.long q2), .second, .val (.long q3), .second, .val (.long q4), .second, .val (.int p5), .val (.int p6), .val (.int z1), .val (.int z2), .val (.int z3), .unset, .unset, .unset, .unset, .unset, .unset, .unset, .unset, .unset, .unset, .unset, .unset, .unset, .unset, .unset, .unset] [(.ref z_)])) t_ → Steps p.tables e below (s₁.setTop (entryFrame m #[(.long q1), (.long q2), (.long q3), (.long q4), (.int p5), (.int p6)] maxLocals)) t_ := ⟨_, rfl, fun t_ k_ => pre110 _ (by
    show Steps p.tables e below (s₁.setTop (mkF m 40 #[.val (.long q1), .second, .val (.long q2), .second, .val (.long q3), .second, .val (.long q4), .second, .val (.int p5), .val (.int p6), .val (.int z1), .val (.int z2), .unset, .unset, .unset, .unset, .unset, .unset, .unset, .unset, .unset, .unset, .unset, .unset, .unset, .unset, .unset, .unset, .unset] [(.int z3)])) _
    refine XS.istore X0.here hx rfl (hb hby at_40) rfl (l' := #[.val (.long q1), .second, .val (.long q2), .second, .val (.long q3), .second, .val (.long q4), .second, .val (.int p5), .val (.int p6), .val (.int z1), .val (.int z2), .val (.int z3), .unset, .unset, .unset, .unset, .unset, .unset, .unset, .unset, .unset, .unset, .unset, .unset, .unset, .unset, .unset, .unset]) rfl ?_
    show Steps p.tables e below (s₁.setTop (mkF m 42 #[.val (.long q1), .second, .val (.long q2), .second, .val (.long q3), .second, .val (.long q4), .second, .val (.int p5), .val (.int p6), .val (.int z1), .val (.int z2), .val (.int z3), .unset, .unset, .unset, .unset, .unset, .unset, .unset, .unset, .unset, .unset, .unset, .unset, .unset, .unset, .unset, .unset] [])) _
    refine XS.iload X0.here hx rfl (hb hby at_42) rfl ?_
    show Steps p.tables e below (s₁.setTop (mkF m 44 #[.val (.long q1), .second, .val (.long q2), .second, .val (.long q3), .second, .val (.long q4), .second, .val (.int p5), .val (.int p6), .val (.int z1), .val (.int z2), .val (.int z3), .unset, .unset, .unset, .unset, .unset, .unset, .unset, .unset, .unset, .unset, .unset, .unset, .unset, .unset, .unset, .unset] [(.int p5)])) _
    refine XS.iconst X0.here hx rfl (hb hby at_44) ?_
    show Steps p.tables e below (s₁.setTop (mkF m 45 #[.val (.long q1), .second, .val (.long q2), .second, .val (.long q3), .second, .val (.long q4), .second, .val (.int p5), .val (.int p6), .val (.int z1), .val (.int z2), .val (.int z3), .unset, .unset, .unset, .unset, .unset, .unset, .unset, .unset, .unset, .unset, .unset, .unset, .unset, .unset, .unset, .unset] [(.int (3 : Int32)), (.int p5)])) _
    refine XS.iushr X0.here hx rfl (hb hby at_45) rfl ?_
    show Steps p.tables e below (s₁.setTop (mkF m 46 #[.val (.long q1), .second, .val (.long q2), .second, .val (.long q3), .second, .val (.long q4), .second, .val (.int p5), .val (.int p6), .val (.int z1), .val (.int z2), .val (.int z3), .unset, .unset, .unset, .unset, .unset, .unset, .unset, .unset, .unset, .unset, .unset, .unset, .unset, .unset, .unset, .unset] [(.int ((p5.toUInt32 >>> ((3 : Int32) &&& 31).toUInt32).toInt32))])) _
    refine XS.iconst X0.here hx rfl (hb hby at_46) ?_
    show Steps p.tables e below (s₁.setTop (mkF m 47 #[.val (.long q1), .second, .val (.long q2), .second, .val (.long q3), .second, .val (.long q4), .second, .val (.int p5), .val (.int p6), .val (.int z1), .val (.int z2), .val (.int z3), .unset, .unset, .unset, .unset, .unset, .unset, .unset, .unset, .unset, .unset, .unset, .unset, .unset, .unset, .unset, .unset] [(.int (3 : Int32)), (.int ((p5.toUInt32 >>> ((3 : Int32) &&& 31).toUInt32).toInt32))])) _
    refine XS.iand X0.here hx rfl (hb hby at_47) rfl ?_
    show Steps p.tables e below (s₁.setTop (mkF m 48 #[.val (.long q1), .second, .val (.long q2), .second, .val (.long q3), .second, .val (.long q4), .second, .val (.int p5), .val (.int p6), .val (.int z1), .val (.int z2), .val (.int z3), .unset, .unset, .unset, .unset, .unset, .unset, .unset, .unset, .unset, .unset, .unset, .unset, .unset, .unset, .unset, .unset] [(.int (((p5.toUInt32 >>> ((3 : Int32) &&& 31).toUInt32).toInt32) &&& (3 : Int32)))])) _
    refine st113 _ ?_
    exact k_)⟩
  obtain ⟨_, _, ⟨T115, L115, k115, n115⟩, -, X115, ⟨Lc115, hQ115, l115, y115, z115⟩, st115⟩ := Jvm.LawKit.callS X113 hx (y := (⟨"com/example/termite/termite/broker/RangeEqualsPinLaw", "pick", "(I)Lcom/example/termite/termite/broker/RecordState;"⟩ : MethodName)) hown (mvT hZ (hw _ (List.mem_of_getElem? (i := 0) rfl))) (mvT hZ (hw _ (List.mem_of_getElem? (i := 1) rfl))) (mvT hZ (hw _ (List.mem_of_getElem? (i := 2) rfl))) (mvT hZ (hw _ (List.mem_of_getElem? (i := 3) rfl))) (by decide) (backOf (W := 0) (rmP l Z a0 hw [] (((p5.toUInt32 >>> ((5 : Int32) &&& 31).toUInt32).toInt32) &&& (3 : Int32)) aV aQ aK aR h0 n0 Z0 S_V S_Q S_K S_R) hZ (hw _ (List.mem_of_getElem? (i := 3) rfl)) (hw _ (List.mem_of_getElem? (i := 2) rfl)) (by decide) (by decide)) (g := (mkF m 59 #[.val (.long q1), .second, .val (.long q2), .second, .val (.long q3), .second, .val (.long q4), .second, .val (.int p5), .val (.int p6), .val (.int z1), .val (.int z2), .val (.int z3), .val (.ref t1), .unset, .unset, .unset, .unset, .unset, .unset, .unset, .unset, .unset, .unset, .unset, .unset, .unset, .unset, .unset] [(.int (((p5.toUInt32 >>> ((5 : Int32) &&& 31).toUInt32).toInt32) &&& (3 : Int32)))])) rfl (by rw [hml]; rfl) (argsL := [(.int (((p5.toUInt32 >>> ((5 : Int32) &&& 31).toUInt32).toInt32) &&& (3 : Int32)))]) (rest := []) (lenOf pd_2 rfl) rfl (by show 2 * 0 + _ ≤ _; exact Nat.le_of_eq rfl) (hb hby at_59) (fun _ _ => ⟨rfl, e113, (by decide : 0 + 0 ≤ _), (by decide : 0 + 0 ≤ _)⟩)
  dsimp only [Pt.U, Pt.locs, Pt.cells, Pt.slots] at X115 l115 y115 z115 st115 hQ115
  subst l115 y115 z115
  obtain ⟨rfl, N115q, e115⟩ := hQ115
  have N115 := Fr.app N113 N115q
  obtain ⟨t2, hv_t2, pre116⟩ : ∃ z_ : Addr, z_ = (own_pick (((p5.toUInt32 >>> ((5 : Int32) &&& 31).toUInt32).toInt32) &&& (3 : Int32)) aV aQ aK aR) ∧ ∀ t_, Steps p.tables e below (T115.setTop (mkF m 62 #[.val (.long q1), .second, .val (.long q2), .second, .val (.long q3), .second, .val (.long q4), .second, .val (.int p5), .val (.int p6), .val (.int z1), .val (.int z2), .val (.int z3), .val (.ref t1), .unset, .unset, .unset, .unset, .unset, .unset, .unset, .unset, .unset, .unset, .unset, .unset, .unset, .unset, .unset] [(.ref z_)])) t_ → Steps p.tables e below (s₁.setTop (entryFrame m #[(.long q1), (.long q2), (.long q3), (.long q4), (.int p5), (.int p6)] maxLocals)) t_ := ⟨_, rfl, fun t_ k_ => pre114 _ (by
    show Steps p.tables e below (T113.setTop (mkF m 51 #[.val (.long q1), .second, .val (.long q2), .second, .val (.long q3), .second, .val (.long q4), .second, .val (.int p5), .val (.int p6), .val (.int z1), .val (.int z2), .val (.int z3), .unset, .unset, .unset, .unset, .unset, .unset, .unset, .unset, .unset, .unset, .unset, .unset, .unset, .unset, .unset, .unset] [(.ref t1)])) _
    refine XS.astore X113.here hx rfl (hb hby at_51) rfl rfl (l' := #[.val (.long q1), .second, .val (.long q2), .second, .val (.long q3), .second, .val (.long q4), .second, .val (.int p5), .val (.int p6), .val (.int z1), .val (.int z2), .val (.int z3), .val (.ref t1), .unset, .unset, .unset, .unset, .unset, .unset, .unset, .unset, .unset, .unset, .unset, .unset, .unset, .unset, .unset]) rfl ?_
    show Steps p.tables e below (T113.setTop (mkF m 53 #[.val (.long q1), .second, .val (.long q2), .second, .val (.long q3), .second, .val (.long q4), .second, .val (.int p5), .val (.int p6), .val (.int z1), .val (.int z2), .val (.int z3), .val (.ref t1), .unset, .unset, .unset, .unset, .unset, .unset, .unset, .unset, .unset, .unset, .unset, .unset, .unset, .unset, .unset] [])) _
    refine XS.iload X113.here hx rfl (hb hby at_53) rfl ?_
    show Steps p.tables e below (T113.setTop (mkF m 55 #[.val (.long q1), .second, .val (.long q2), .second, .val (.long q3), .second, .val (.long q4), .second, .val (.int p5), .val (.int p6), .val (.int z1), .val (.int z2), .val (.int z3), .val (.ref t1), .unset, .unset, .unset, .unset, .unset, .unset, .unset, .unset, .unset, .unset, .unset, .unset, .unset, .unset, .unset] [(.int p5)])) _
    refine XS.iconst X113.here hx rfl (hb hby at_55) ?_
    show Steps p.tables e below (T113.setTop (mkF m 56 #[.val (.long q1), .second, .val (.long q2), .second, .val (.long q3), .second, .val (.long q4), .second, .val (.int p5), .val (.int p6), .val (.int z1), .val (.int z2), .val (.int z3), .val (.ref t1), .unset, .unset, .unset, .unset, .unset, .unset, .unset, .unset, .unset, .unset, .unset, .unset, .unset, .unset, .unset] [(.int (5 : Int32)), (.int p5)])) _
    refine XS.iushr X113.here hx rfl (hb hby at_56) rfl ?_
    show Steps p.tables e below (T113.setTop (mkF m 57 #[.val (.long q1), .second, .val (.long q2), .second, .val (.long q3), .second, .val (.long q4), .second, .val (.int p5), .val (.int p6), .val (.int z1), .val (.int z2), .val (.int z3), .val (.ref t1), .unset, .unset, .unset, .unset, .unset, .unset, .unset, .unset, .unset, .unset, .unset, .unset, .unset, .unset, .unset] [(.int ((p5.toUInt32 >>> ((5 : Int32) &&& 31).toUInt32).toInt32))])) _
    refine XS.iconst X113.here hx rfl (hb hby at_57) ?_
    show Steps p.tables e below (T113.setTop (mkF m 58 #[.val (.long q1), .second, .val (.long q2), .second, .val (.long q3), .second, .val (.long q4), .second, .val (.int p5), .val (.int p6), .val (.int z1), .val (.int z2), .val (.int z3), .val (.ref t1), .unset, .unset, .unset, .unset, .unset, .unset, .unset, .unset, .unset, .unset, .unset, .unset, .unset, .unset, .unset] [(.int (3 : Int32)), (.int ((p5.toUInt32 >>> ((5 : Int32) &&& 31).toUInt32).toInt32))])) _
    refine XS.iand X113.here hx rfl (hb hby at_58) rfl ?_
    show Steps p.tables e below (T113.setTop (mkF m 59 #[.val (.long q1), .second, .val (.long q2), .second, .val (.long q3), .second, .val (.long q4), .second, .val (.int p5), .val (.int p6), .val (.int z1), .val (.int z2), .val (.int z3), .val (.ref t1), .unset, .unset, .unset, .unset, .unset, .unset, .unset, .unset, .unset, .unset, .unset, .unset, .unset, .unset, .unset] [(.int (((p5.toUInt32 >>> ((5 : Int32) &&& 31).toUInt32).toInt32) &&& (3 : Int32)))])) _
    refine st115 _ ?_
    exact k_)⟩
  obtain ⟨d1, hv_d1, pre117⟩ : ∃ z_ : Int32, z_ = (p6.toInt16.toInt32) ∧ ∀ t_, Steps p.tables e below (T115.setTop (mkF m 69 #[.val (.long q1), .second, .val (.long q2), .second, .val (.long q3), .second, .val (.long q4), .second, .val (.int p5), .val (.int p6), .val (.int z1), .val (.int z2), .val (.int z3), .val (.ref t1), .val (.ref t2), .val (.int z_), .unset, .unset, .unset, .unset, .unset, .unset, .unset, .unset, .unset, .unset, .unset, .unset, .unset] [])) t_ → Steps p.tables e below (s₁.setTop (entryFrame m #[(.long q1), (.long q2), (.long q3), (.long q4), (.int p5), (.int p6)] maxLocals)) t_ := ⟨_, rfl, fun t_ k_ => pre116 _ (by
    show Steps p.tables e below (T115.setTop (mkF m 62 #[.val (.long q1), .second, .val (.long q2), .second, .val (.long q3), .second, .val (.long q4), .second, .val (.int p5), .val (.int p6), .val (.int z1), .val (.int z2), .val (.int z3), .val (.ref t1), .unset, .unset, .unset, .unset, .unset, .unset, .unset, .unset, .unset, .unset, .unset, .unset, .unset, .unset, .unset] [(.ref t2)])) _
    refine XS.astore X115.here hx rfl (hb hby at_62) rfl rfl (l' := #[.val (.long q1), .second, .val (.long q2), .second, .val (.long q3), .second, .val (.long q4), .second, .val (.int p5), .val (.int p6), .val (.int z1), .val (.int z2), .val (.int z3), .val (.ref t1), .val (.ref t2), .unset, .unset, .unset, .unset, .unset, .unset, .unset, .unset, .unset, .unset, .unset, .unset, .unset, .unset]) rfl ?_
    show Steps p.tables e below (T115.setTop (mkF m 64 #[.val (.long q1), .second, .val (.long q2), .second, .val (.long q3), .second, .val (.long q4), .second, .val (.int p5), .val (.int p6), .val (.int z1), .val (.int z2), .val (.int z3), .val (.ref t1), .val (.ref t2), .unset, .unset, .unset, .unset, .unset, .unset, .unset, .unset, .unset, .unset, .unset, .unset, .unset, .unset] [])) _
    refine XS.iload X115.here hx rfl (hb hby at_64) rfl ?_
    show Steps p.tables e below (T115.setTop (mkF m 66 #[.val (.long q1), .second, .val (.long q2), .second, .val (.long q3), .second, .val (.long q4), .second, .val (.int p5), .val (.int p6), .val (.int z1), .val (.int z2), .val (.int z3), .val (.ref t1), .val (.ref t2), .unset, .unset, .unset, .unset, .unset, .unset, .unset, .unset, .unset, .unset, .unset, .unset, .unset, .unset] [(.int p6)])) _
    refine XS.i2s X115.here hx rfl (hb hby at_66) rfl ?_
    show Steps p.tables e below (T115.setTop (mkF m 67 #[.val (.long q1), .second, .val (.long q2), .second, .val (.long q3), .second, .val (.long q4), .second, .val (.int p5), .val (.int p6), .val (.int z1), .val (.int z2), .val (.int z3), .val (.ref t1), .val (.ref t2), .unset, .unset, .unset, .unset, .unset, .unset, .unset, .unset, .unset, .unset, .unset, .unset, .unset, .unset] [(.int (p6.toInt16.toInt32))])) _
    refine XS.istore X115.here hx rfl (hb hby at_67) rfl (l' := #[.val (.long q1), .second, .val (.long q2), .second, .val (.long q3), .second, .val (.long q4), .second, .val (.int p5), .val (.int p6), .val (.int z1), .val (.int z2), .val (.int z3), .val (.ref t1), .val (.ref t2), .val (.int (p6.toInt16.toInt32)), .unset, .unset, .unset, .unset, .unset, .unset, .unset, .unset, .unset, .unset, .unset, .unset, .unset]) rfl ?_
    exact k_)⟩
  have hs_d1 : nar .short d1 = d1 := by rw [hv_d1]; exact own_nars _
  have pre118 : ∀ t_, Steps p.tables e below (T115.setTop (mkF m 71 #[.val (.long q1), .second, .val (.long q2), .second, .val (.long q3), .second, .val (.long q4), .second, .val (.int p5), .val (.int p6), .val (.int z1), .val (.int z2), .val (.int z3), .val (.ref t1), .val (.ref t2), .val (.int d1), .unset, .unset, .unset, .unset, .unset, .unset, .unset, .unset, .unset, .unset, .unset, .unset, .unset] [(.int z3)])) t_ → Steps p.tables e below (s₁.setTop (entryFrame m #[(.long q1), (.long q2), (.long q3), (.long q4), (.int p5), (.int p6)] maxLocals)) t_ := fun t_ k_ => pre117 _ (by
    show Steps p.tables e below (T115.setTop (mkF m 69 #[.val (.long q1), .second, .val (.long q2), .second, .val (.long q3), .second, .val (.long q4), .second, .val (.int p5), .val (.int p6), .val (.int z1), .val (.int z2), .val (.int z3), .val (.ref t1), .val (.ref t2), .val (.int d1), .unset, .unset, .unset, .unset, .unset, .unset, .unset, .unset, .unset, .unset, .unset, .unset, .unset] [])) _
    refine XS.iload X115.here hx rfl (hb hby at_69) rfl ?_
    exact k_)
  obtain ⟨d2, hj_d2, pre119⟩ : ∃ d2 : Int32, (nar .short d2 = d2) ∧ ∀ t_, Steps p.tables e below (T115.setTop (mkF m 85 #[.val (.long q1), .second, .val (.long q2), .second, .val (.long q3), .second, .val (.long q4), .second, .val (.int p5), .val (.int p6), .val (.int z1), .val (.int z2), .val (.int z3), .val (.ref t1), .val (.ref t2), .val (.int d1), .unset, .unset, .unset, .unset, .unset, .unset, .unset, .unset, .unset, .unset, .unset, .unset, .unset] [(.int d2)])) t_ → Steps p.tables e below (s₁.setTop (entryFrame m #[(.long q1), (.long q2), (.long q3), (.long q4), (.int p5), (.int p6)] maxLocals)) t_ := by
    by_cases hf : z3 = (0 : Int32)
    · skip
      have pre120 : ∀ t_, Steps p.tables e below (T115.setTop (mkF m 85 #[.val (.long q1), .second, .val (.long q2), .second, .val (.long q3), .second, .val (.long q4), .second, .val (.int p5), .val (.int p6), .val (.int z1), .val (.int z2), .val (.int z3), .val (.ref t1), .val (.ref t2), .val (.int d1), .unset, .unset, .unset, .unset, .unset, .unset, .unset, .unset, .unset, .unset, .unset, .unset, .unset] [(.int (((p6.toUInt32 >>> ((16 : Int32) &&& 31).toUInt32).toInt32).toInt16.toInt32))])) t_ → Steps p.tables e below (s₁.setTop (entryFrame m #[(.long q1), (.long q2), (.long q3), (.long q4), (.int p5), (.int p6)] maxLocals)) t_ := fun t_ k_ => pre118 _ (by
        show Steps p.tables e below (T115.setTop (mkF m 71 #[.val (.long q1), .second, .val (.long q2), .second, .val (.long q3), .second, .val (.long q4), .second, .val (.int p5), .val (.int p6), .val (.int z1), .val (.int z2), .val (.int z3), .val (.ref t1), .val (.ref t2), .val (.int d1), .unset, .unset, .unset, .unset, .unset, .unset, .unset, .unset, .unset, .unset, .unset, .unset, .unset] [(.int z3)])) _
        refine XS.ifYes X115.here hx rfl (pc0 := 71) (pc' := 79) rfl (hb hby at_71) rfl ((if0 _ _).trans (teq hf).1) (by decide) (by decide) ?_
        show Steps p.tables e below (T115.setTop (mkF m 79 #[.val (.long q1), .second, .val (.long q2), .second, .val (.long q3), .second, .val (.long q4), .second, .val (.int p5), .val (.int p6), .val (.int z1), .val (.int z2), .val (.int z3), .val (.ref t1), .val (.ref t2), .val (.int d1), .unset, .unset, .unset, .unset, .unset, .unset, .unset, .unset, .unset, .unset, .unset, .unset, .unset] [])) _
        refine XS.iload X115.here hx rfl (hb hby at_79) rfl ?_
        show Steps p.tables e below (T115.setTop (mkF m 81 #[.val (.long q1), .second, .val (.long q2), .second, .val (.long q3), .second, .val (.long q4), .second, .val (.int p5), .val (.int p6), .val (.int z1), .val (.int z2), .val (.int z3), .val (.ref t1), .val (.ref t2), .val (.int d1), .unset, .unset, .unset, .unset, .unset, .unset, .unset, .unset, .unset, .unset, .unset, .unset, .unset] [(.int p6)])) _
        refine XS.bipush X115.here hx rfl (hb hby at_81) ?_
        show Steps p.tables e below (T115.setTop (mkF m 83 #[.val (.long q1), .second, .val (.long q2), .second, .val (.long q3), .second, .val (.long q4), .second, .val (.int p5), .val (.int p6), .val (.int z1), .val (.int z2), .val (.int z3), .val (.ref t1), .val (.ref t2), .val (.int d1), .unset, .unset, .unset, .unset, .unset, .unset, .unset, .unset, .unset, .unset, .unset, .unset, .unset] [(.int (16 : Int32)), (.int p6)])) _
        refine XS.iushr X115.here hx rfl (hb hby at_83) rfl ?_
        show Steps p.tables e below (T115.setTop (mkF m 84 #[.val (.long q1), .second, .val (.long q2), .second, .val (.long q3), .second, .val (.long q4), .second, .val (.int p5), .val (.int p6), .val (.int z1), .val (.int z2), .val (.int z3), .val (.ref t1), .val (.ref t2), .val (.int d1), .unset, .unset, .unset, .unset, .unset, .unset, .unset, .unset, .unset, .unset, .unset, .unset, .unset] [(.int ((p6.toUInt32 >>> ((16 : Int32) &&& 31).toUInt32).toInt32))])) _
        refine XS.i2s X115.here hx rfl (hb hby at_84) rfl ?_
        exact k_)
      exact ⟨(((p6.toUInt32 >>> ((16 : Int32) &&& 31).toUInt32).toInt32).toInt16.toInt32), own_nars _, pre120⟩
    · skip
      have pre121 : ∀ t_, Steps p.tables e below (T115.setTop (mkF m 85 #[.val (.long q1), .second, .val (.long q2), .second, .val (.long q3), .second, .val (.long q4), .second, .val (.int p5), .val (.int p6), .val (.int z1), .val (.int z2), .val (.int z3), .val (.ref t1), .val (.ref t2), .val (.int d1), .unset, .unset, .unset, .unset, .unset, .unset, .unset, .unset, .unset, .unset, .unset, .unset, .unset] [(.int d1)])) t_ → Steps p.tables e below (s₁.setTop (entryFrame m #[(.long q1), (.long q2), (.long q3), (.long q4), (.int p5), (.int p6)] maxLocals)) t_ := fun t_ k_ => pre118 _ (by
        show Steps p.tables e below (T115.setTop (mkF m 71 #[.val (.long q1), .second, .val (.long q2), .second, .val (.long q3), .second, .val (.long q4), .second, .val (.int p5), .val (.int p6), .val (.int z1), .val (.int z2), .val (.int z3), .val (.ref t1), .val (.ref t2), .val (.int d1), .unset, .unset, .unset, .unset, .unset, .unset, .unset, .unset, .unset, .unset, .unset, .unset, .unset] [(.int z3)])) _
        refine XS.ifNo X115.here hx rfl (hb hby at_71) rfl ((if0 _ _).trans (feq hf).1) ?_
        show Steps p.tables e below (T115.setTop (mkF m 74 #[.val (.long q1), .second, .val (.long q2), .second, .val (.long q3), .second, .val (.long q4), .second, .val (.int p5), .val (.int p6), .val (.int z1), .val (.int z2), .val (.int z3), .val (.ref t1), .val (.ref t2), .val (.int d1), .unset, .unset, .unset, .unset, .unset, .unset, .unset, .unset, .unset, .unset, .unset, .unset, .unset] [])) _
        refine XS.iload X115.here hx rfl (hb hby at_74) rfl ?_
        show Steps p.tables e below (T115.setTop (mkF m 76 #[.val (.long q1), .second, .val (.long q2), .second, .val (.long q3), .second, .val (.long q4), .second, .val (.int p5), .val (.int p6), .val (.int z1), .val (.int z2), .val (.int z3), .val (.ref t1), .val (.ref t2), .val (.int d1), .unset, .unset, .unset, .unset, .unset, .unset, .unset, .unset, .unset, .unset, .unset, .unset, .unset] [(.int d1)])) _
        refine XS.goto X115.here hx rfl (pc0 := 76) (pc' := 85) rfl (hb hby at_76) (by decide) (by decide) ?_
        exact k_)
      exact ⟨d1, hs_d1, pre121⟩
  have hs_d2 := hj_d2
  have pre122 : ∀ t_, Steps p.tables e below (T115.setTop (mkF m 89 #[.val (.long q1), .second, .val (.long q2), .second, .val (.long q3), .second, .val (.long q4), .second, .val (.int p5), .val (.int p6), .val (.int z1), .val (.int z2), .val (.int z3), .val (.ref t1), .val (.ref t2), .val (.int d1), .val (.int d2), .unset, .unset, .unset, .unset, .unset, .unset, .unset, .unset, .unset, .unset, .unset, .unset] [(.int z1)])) t_ → Steps p.tables e below (s₁.setTop (entryFrame m #[(.long q1), (.long q2), (.long q3), (.long q4), (.int p5), (.int p6)] maxLocals)) t_ := fun t_ k_ => pre119 _ (by
    show Steps p.tables e below (T115.setTop (mkF m 85 #[.val (.long q1), .second, .val (.long q2), .second, .val (.long q3), .second, .val (.long q4), .second, .val (.int p5), .val (.int p6), .val (.int z1), .val (.int z2), .val (.int z3), .val (.ref t1), .val (.ref t2), .val (.int d1), .unset, .unset, .unset, .unset, .unset, .unset, .unset, .unset, .unset, .unset, .unset, .unset, .unset] [(.int d2)])) _
    refine XS.istore X115.here hx rfl (hb hby at_85) rfl (l' := #[.val (.long q1), .second, .val (.long q2), .second, .val (.long q3), .second, .val (.long q4), .second, .val (.int p5), .val (.int p6), .val (.int z1), .val (.int z2), .val (.int z3), .val (.ref t1), .val (.ref t2), .val (.int d1), .val (.int d2), .unset, .unset, .unset, .unset, .unset, .unset, .unset, .unset, .unset, .unset, .unset, .unset]) rfl ?_
    show Steps p.tables e below (T115.setTop (mkF m 87 #[.val (.long q1), .second, .val (.long q2), .second, .val (.long q3), .second, .val (.long q4), .second, .val (.int p5), .val (.int p6), .val (.int z1), .val (.int z2), .val (.int z3), .val (.ref t1), .val (.ref t2), .val (.int d1), .val (.int d2), .unset, .unset, .unset, .unset, .unset, .unset, .unset, .unset, .unset, .unset, .unset, .unset] [])) _
    refine XS.iload X115.here hx rfl (hb hby at_87) rfl ?_
    exact k_)
  obtain ⟨f2, hj_f2, pre123⟩ : ∃ f2 : Int64, (True) ∧ ∀ t_, Steps p.tables e below (T115.setTop (mkF m 98 #[.val (.long q1), .second, .val (.long q2), .second, .val (.long q3), .second, .val (.long q4), .second, .val (.int p5), .val (.int p6), .val (.int z1), .val (.int z2), .val (.int z3), .val (.ref t1), .val (.ref t2), .val (.int d1), .val (.int d2), .unset, .unset, .unset, .unset, .unset, .unset, .unset, .unset, .unset, .unset, .unset, .unset] [(.long f2)])) t_ → Steps p.tables e below (s₁.setTop (entryFrame m #[(.long q1), (.long q2), (.long q3), (.long q4), (.int p5), (.int p6)] maxLocals)) t_ := by
    by_cases hf : z1 = (0 : Int32)
    · skip
      have pre124 : ∀ t_, Steps p.tables e below (T115.setTop (mkF m 98 #[.val (.long q1), .second, .val (.long q2), .second, .val (.long q3), .second, .val (.long q4), .second, .val (.int p5), .val (.int p6), .val (.int z1), .val (.int z2), .val (.int z3), .val (.ref t1), .val (.ref t2), .val (.int d1), .val (.int d2), .unset, .unset, .unset, .unset, .unset, .unset, .unset, .unset, .unset, .unset, .unset, .unset] [(.long q3)])) t_ → Steps p.tables e below (s₁.setTop (entryFrame m #[(.long q1), (.long q2), (.long q3), (.long q4), (.int p5), (.int p6)] maxLocals)) t_ := fun t_ k_ => pre122 _ (by
        show Steps p.tables e below (T115.setTop (mkF m 89 #[.val (.long q1), .second, .val (.long q2), .second, .val (.long q3), .second, .val (.long q4), .second, .val (.int p5), .val (.int p6), .val (.int z1), .val (.int z2), .val (.int z3), .val (.ref t1), .val (.ref t2), .val (.int d1), .val (.int d2), .unset, .unset, .unset, .unset, .unset, .unset, .unset, .unset, .unset, .unset, .unset, .unset] [(.int z1)])) _
        refine XS.ifYes X115.here hx rfl (pc0 := 89) (pc' := 96) rfl (hb hby at_89) rfl ((if0 _ _).trans (teq hf).1) (by decide) (by decide) ?_
        show Steps p.tables e below (T115.setTop (mkF m 96 #[.val (.long q1), .second, .val (.long q2), .second, .val (.long q3), .second, .val (.long q4), .second, .val (.int p5), .val (.int p6), .val (.int z1), .val (.int z2), .val (.int z3), .val (.ref t1), .val (.ref t2), .val (.int d1), .val (.int d2), .unset, .unset, .unset, .unset, .unset, .unset, .unset, .unset, .unset, .unset, .unset, .unset] [])) _
        refine XS.lload X115.here hx rfl (hb hby at_96) rfl ?_
        exact k_)
      exact ⟨q3, trivial, pre124⟩
    · skip
      have pre125 : ∀ t_, Steps p.tables e below (T115.setTop (mkF m 98 #[.val (.long q1), .second, .val (.long q2), .second, .val (.long q3), .second, .val (.long q4), .second, .val (.int p5), .val (.int p6), .val (.int z1), .val (.int z2), .val (.int z3), .val (.ref t1), .val (.ref t2), .val (.int d1), .val (.int d2), .unset, .unset, .unset, .unset, .unset, .unset, .unset, .unset, .unset, .unset, .unset, .unset] [(.long q1)])) t_ → Steps p.tables e below (s₁.setTop (entryFrame m #[(.long q1), (.long q2), (.long q3), (.long q4), (.int p5), (.int p6)] maxLocals)) t_ := fun t_ k_ => pre122 _ (by
        show Steps p.tables e below (T115.setTop (mkF m 89 #[.val (.long q1), .second, .val (.long q2), .second, .val (.long q3), .second, .val (.long q4), .second, .val (.int p5), .val (.int p6), .val (.int z1), .val (.int z2), .val (.int z3), .val (.ref t1), .val (.ref t2), .val (.int d1), .val (.int d2), .unset, .unset, .unset, .unset, .unset, .unset, .unset, .unset, .unset, .unset, .unset, .unset] [(.int z1)])) _
        refine XS.ifNo X115.here hx rfl (hb hby at_89) rfl ((if0 _ _).trans (feq hf).1) ?_
        show Steps p.tables e below (T115.setTop (mkF m 92 #[.val (.long q1), .second, .val (.long q2), .second, .val (.long q3), .second, .val (.long q4), .second, .val (.int p5), .val (.int p6), .val (.int z1), .val (.int z2), .val (.int z3), .val (.ref t1), .val (.ref t2), .val (.int d1), .val (.int d2), .unset, .unset, .unset, .unset, .unset, .unset, .unset, .unset, .unset, .unset, .unset, .unset] [])) _
        refine XS.lloadN X115.here hx rfl (hb hby at_92) rfl ?_
        show Steps p.tables e below (T115.setTop (mkF m 93 #[.val (.long q1), .second, .val (.long q2), .second, .val (.long q3), .second, .val (.long q4), .second, .val (.int p5), .val (.int p6), .val (.int z1), .val (.int z2), .val (.int z3), .val (.ref t1), .val (.ref t2), .val (.int d1), .val (.int d2), .unset, .unset, .unset, .unset, .unset, .unset, .unset, .unset, .unset, .unset, .unset, .unset] [(.long q1)])) _
        refine XS.goto X115.here hx rfl (pc0 := 93) (pc' := 98) rfl (hb hby at_93) (by decide) (by decide) ?_
        exact k_)
      exact ⟨q1, trivial, pre125⟩
  have pre126 : ∀ t_, Steps p.tables e below (T115.setTop (mkF m 102 #[.val (.long q1), .second, .val (.long q2), .second, .val (.long q3), .second, .val (.long q4), .second, .val (.int p5), .val (.int p6), .val (.int z1), .val (.int z2), .val (.int z3), .val (.ref t1), .val (.ref t2), .val (.int d1), .val (.int d2), .val (.long f2), .second, .unset, .unset, .unset, .unset, .unset, .unset, .unset, .unset, .unset, .unset] [(.int z2)])) t_ → Steps p.tables e below (s₁.setTop (entryFrame m #[(.long q1), (.long q2), (.long q3), (.long q4), (.int p5), (.int p6)] maxLocals)) t_ := fun t_ k_ => pre123 _ (by
    show Steps p.tables e below (T115.setTop (mkF m 98 #[.val (.long q1), .second, .val (.long q2), .second, .val (.long q3), .second, .val (.long q4), .second, .val (.int p5), .val (.int p6), .val (.int z1), .val (.int z2), .val (.int z3), .val (.ref t1), .val (.ref t2), .val (.int d1), .val (.int d2), .unset, .unset, .unset, .unset, .unset, .unset, .unset, .unset, .unset, .unset, .unset, .unset] [(.long f2)])) _
    refine XS.lstore X115.here hx rfl (hb hby at_98) rfl (l' := #[.val (.long q1), .second, .val (.long q2), .second, .val (.long q3), .second, .val (.long q4), .second, .val (.int p5), .val (.int p6), .val (.int z1), .val (.int z2), .val (.int z3), .val (.ref t1), .val (.ref t2), .val (.int d1), .val (.int d2), .val (.long f2), .second, .unset, .unset, .unset, .unset, .unset, .unset, .unset, .unset, .unset, .unset]) rfl ?_
    show Steps p.tables e below (T115.setTop (mkF m 100 #[.val (.long q1), .second, .val (.long q2), .second, .val (.long q3), .second, .val (.long q4), .second, .val (.int p5), .val (.int p6), .val (.int z1), .val (.int z2), .val (.int z3), .val (.ref t1), .val (.ref t2), .val (.int d1), .val (.int d2), .val (.long f2), .second, .unset, .unset, .unset, .unset, .unset, .unset, .unset, .unset, .unset, .unset] [])) _
    refine XS.iload X115.here hx rfl (hb hby at_100) rfl ?_
    exact k_)
  obtain ⟨l2, hj_l2, pre127⟩ : ∃ l2 : Int64, (True) ∧ ∀ t_, Steps p.tables e below (T115.setTop (mkF m 111 #[.val (.long q1), .second, .val (.long q2), .second, .val (.long q3), .second, .val (.long q4), .second, .val (.int p5), .val (.int p6), .val (.int z1), .val (.int z2), .val (.int z3), .val (.ref t1), .val (.ref t2), .val (.int d1), .val (.int d2), .val (.long f2), .second, .unset, .unset, .unset, .unset, .unset, .unset, .unset, .unset, .unset, .unset] [(.long l2)])) t_ → Steps p.tables e below (s₁.setTop (entryFrame m #[(.long q1), (.long q2), (.long q3), (.long q4), (.int p5), (.int p6)] maxLocals)) t_ := by
    by_cases hf : z2 = (0 : Int32)
    · skip
      have pre128 : ∀ t_, Steps p.tables e below (T115.setTop (mkF m 111 #[.val (.long q1), .second, .val (.long q2), .second, .val (.long q3), .second, .val (.long q4), .second, .val (.int p5), .val (.int p6), .val (.int z1), .val (.int z2), .val (.int z3), .val (.ref t1), .val (.ref t2), .val (.int d1), .val (.int d2), .val (.long f2), .second, .unset, .unset, .unset, .unset, .unset, .unset, .unset, .unset, .unset, .unset] [(.long q4)])) t_ → Steps p.tables e below (s₁.setTop (entryFrame m #[(.long q1), (.long q2), (.long q3), (.long q4), (.int p5), (.int p6)] maxLocals)) t_ := fun t_ k_ => pre126 _ (by
        show Steps p.tables e below (T115.setTop (mkF m 102 #[.val (.long q1), .second, .val (.long q2), .second, .val (.long q3), .second, .val (.long q4), .second, .val (.int p5), .val (.int p6), .val (.int z1), .val (.int z2), .val (.int z3), .val (.ref t1), .val (.ref t2), .val (.int d1), .val (.int d2), .val (.long f2), .second, .unset, .unset, .unset, .unset, .unset, .unset, .unset, .unset, .unset, .unset] [(.int z2)])) _
        refine XS.ifYes X115.here hx rfl (pc0 := 102) (pc' := 109) rfl (hb hby at_102) rfl ((if0 _ _).trans (teq hf).1) (by decide) (by decide) ?_
        show Steps p.tables e below (T115.setTop (mkF m 109 #[.val (.long q1), .second, .val (.long q2), .second, .val (.long q3), .second, .val (.long q4), .second, .val (.int p5), .val (.int p6), .val (.int z1), .val (.int z2), .val (.int z3), .val (.ref t1), .val (.ref t2), .val (.int d1), .val (.int d2), .val (.long f2), .second, .unset, .unset, .unset, .unset, .unset, .unset, .unset, .unset, .unset, .unset] [])) _
        refine XS.lload X115.here hx rfl (hb hby at_109) rfl ?_
        exact k_)
      exact ⟨q4, trivial, pre128⟩
    · skip
      have pre129 : ∀ t_, Steps p.tables e below (T115.setTop (mkF m 111 #[.val (.long q1), .second, .val (.long q2), .second, .val (.long q3), .second, .val (.long q4), .second, .val (.int p5), .val (.int p6), .val (.int z1), .val (.int z2), .val (.int z3), .val (.ref t1), .val (.ref t2), .val (.int d1), .val (.int d2), .val (.long f2), .second, .unset, .unset, .unset, .unset, .unset, .unset, .unset, .unset, .unset, .unset] [(.long q2)])) t_ → Steps p.tables e below (s₁.setTop (entryFrame m #[(.long q1), (.long q2), (.long q3), (.long q4), (.int p5), (.int p6)] maxLocals)) t_ := fun t_ k_ => pre126 _ (by
        show Steps p.tables e below (T115.setTop (mkF m 102 #[.val (.long q1), .second, .val (.long q2), .second, .val (.long q3), .second, .val (.long q4), .second, .val (.int p5), .val (.int p6), .val (.int z1), .val (.int z2), .val (.int z3), .val (.ref t1), .val (.ref t2), .val (.int d1), .val (.int d2), .val (.long f2), .second, .unset, .unset, .unset, .unset, .unset, .unset, .unset, .unset, .unset, .unset] [(.int z2)])) _
        refine XS.ifNo X115.here hx rfl (hb hby at_102) rfl ((if0 _ _).trans (feq hf).1) ?_
        show Steps p.tables e below (T115.setTop (mkF m 105 #[.val (.long q1), .second, .val (.long q2), .second, .val (.long q3), .second, .val (.long q4), .second, .val (.int p5), .val (.int p6), .val (.int z1), .val (.int z2), .val (.int z3), .val (.ref t1), .val (.ref t2), .val (.int d1), .val (.int d2), .val (.long f2), .second, .unset, .unset, .unset, .unset, .unset, .unset, .unset, .unset, .unset, .unset] [])) _
        refine XS.lloadN X115.here hx rfl (hb hby at_105) rfl ?_
        show Steps p.tables e below (T115.setTop (mkF m 106 #[.val (.long q1), .second, .val (.long q2), .second, .val (.long q3), .second, .val (.long q4), .second, .val (.int p5), .val (.int p6), .val (.int z1), .val (.int z2), .val (.int z3), .val (.ref t1), .val (.ref t2), .val (.int d1), .val (.int d2), .val (.long f2), .second, .unset, .unset, .unset, .unset, .unset, .unset, .unset, .unset, .unset, .unset] [(.long q2)])) _
        refine XS.goto X115.here hx rfl (pc0 := 106) (pc' := 111) rfl (hb hby at_106) (by decide) (by decide) ?_
        exact k_)
      exact ⟨q2, trivial, pre129⟩
  obtain ⟨T130, h130, X130, e130, Ext_bx, E_bx, D_bx, -, st130⟩ := newO X115 hx hZ hown (hw _ (List.mem_of_getElem? (i := 7) rfl)) (hw _ (List.mem_of_getElem? (i := 8) rfl)) (hw _ (List.mem_of_getElem? (i := 9) rfl)) e115 (g := (mkF m 113 #[.val (.long q1), .second, .val (.long q2), .second, .val (.long q3), .second, .val (.long q4), .second, .val (.int p5), .val (.int p6), .val (.int z1), .val (.int z2), .val (.int z3), .val (.ref t1), .val (.ref t2), .val (.int d1), .val (.int d2), .val (.long f2), .second, .val (.long l2), .second, .unset, .unset, .unset, .unset, .unset, .unset, .unset, .unset] [])) rfl (hb hby at_113) (by decide) (by decide)
  obtain ⟨bx, eq_bx⟩ : ∃ z, z = h0.size := ⟨_, rfl⟩
  rw [← eq_bx] at E_bx D_bx st130
  have g_bx : n0 ≤ bx := Nat.le_trans Z0 (Nat.le_of_eq eq_bx.symm)
  have O_131 := O.ext Ext_bx
  have Z132 : n0 ≤ h130.size := Nat.le_trans Z0 (Ext_bx.1)
  have F0_bx : Fld Z h130 bx "com/example/termite/termite/broker/ShareState$Range" "firstOffset" "J" (.long (0 : Int64)) := D_bx (Or.inr (hw _ (List.mem_of_getElem? (i := 17) rfl))) (ty := .long) (by decide)
  have F1_bx : Fld Z h130 bx "com/example/termite/termite/broker/ShareState$Range" "lastOffset" "J" (.long (0 : Int64)) := D_bx (Or.inr (hw _ (List.mem_of_getElem? (i := 19) rfl))) (ty := .long) (by decide)
  have F2_bx : Fld Z h130 bx "com/example/termite/termite/broker/ShareState$Range" "state" "Lcom/example/termite/termite/broker/RecordState;" .null := D_bx (Or.inr (hw _ (List.mem_of_getElem? (i := 21) rfl))) (ty := (.object "com/example/termite/termite/broker/RecordState")) (by decide)
  have F3_bx : Fld Z h130 bx "com/example/termite/termite/broker/ShareState$Range" "deliveryCount" "S" (.int (0 : Int32)) := D_bx (Or.inr (hw _ (List.mem_of_getElem? (i := 23) rfl))) (ty := .short) (by decide)
  obtain ⟨_, _, ⟨T133, L133, k133, n133⟩, -, X133, ⟨Lc133, hQ133, l133, y133, z133⟩, st133⟩ := X130.specialBack hx (y := (⟨"com/example/termite/termite/broker/ShareState$Range", "<init>", "(JJLcom/example/termite/termite/broker/RecordState;S)V"⟩ : MethodName)) rfl hown (mvT hZ (hw _ (List.mem_of_getElem? (i := 10) rfl))) (mvT hZ (hw _ (List.mem_of_getElem? (i := 11) rfl))) (mvT hZ (hw _ (List.mem_of_getElem? (i := 12) rfl))) (by decide) (backOf (W := 1) (rmC l Z a0 hw [] bx q1 q2 t1 d1 h130 n0 Z132 E_bx F0_bx F1_bx F2_bx F3_bx g_bx) hZ (hw _ (List.mem_of_getElem? (i := 12) rfl)) (hw _ (List.mem_of_getElem? (i := 9) rfl)) (by decide) (by decide)) (g := (mkF m 123 #[.val (.long q1), .second, .val (.long q2), .second, .val (.long q3), .second, .val (.long q4), .second, .val (.int p5), .val (.int p6), .val (.int z1), .val (.int z2), .val (.int z3), .val (.ref t1), .val (.ref t2), .val (.int d1), .val (.int d2), .val (.long f2), .second, .val (.long l2), .second, .unset, .unset, .unset, .unset, .unset, .unset, .unset, .unset] [(.int d1), (.ref t1), (.long q2), (.long q1), (.ref bx), (.ref bx)])) rfl (by rw [hml]; rfl) (Steps.refl _) (a := bx) (argsL := [(.long q1), (.long q2), (.ref t1), (.int d1)]) (rest := [(.ref bx)]) (lenOf pd_3 rfl) rfl (by show 2 * 0 + _ ≤ _; exact Nat.le_of_eq rfl) (hb hby at_123) (fun _ _ => ⟨rfl, e130, (by decide : 1 + 0 ≤ _), (by decide : 4 + 0 ≤ _)⟩)
  dsimp only [Pt.U, Pt.locs, Pt.cells, Pt.slots] at X133 l133 y133 z133 st133 hQ133
  subst l133 y133 z133
  obtain ⟨rfl, N133q, K133, E133, F0133, F1133, F2133, F3133⟩ := hQ133
  have N133 := Fr.app N115 N133q
  have Z135 : n0 ≤ T133.heap.size := Nat.le_trans Z132 (K133.1)
  have O_136 := O_131.keep K133 (allS g_bx all0)
  rw [hs_d1] at F3133
  obtain ⟨T137, h137, X137, e137, Ext_by_, E_by_, D_by_, -, st137⟩ := newO X133 hx hZ hown (hw _ (List.mem_of_getElem? (i := 7) rfl)) (hw _ (List.mem_of_getElem? (i := 8) rfl)) (hw _ (List.mem_of_getElem? (i := 9) rfl)) rfl (g := (mkF m 128 #[.val (.long q1), .second, .val (.long q2), .second, .val (.long q3), .second, .val (.long q4), .second, .val (.int p5), .val (.int p6), .val (.int z1), .val (.int z2), .val (.int z3), .val (.ref t1), .val (.ref t2), .val (.int d1), .val (.int d2), .val (.long f2), .second, .val (.long l2), .second, .val (.ref bx), .unset, .unset, .unset, .unset, .unset, .unset, .unset] [])) rfl (hb hby at_128) (by decide) (by decide)
  obtain ⟨by_, eq_by_⟩ : ∃ z, z = T133.heap.size := ⟨_, rfl⟩
  rw [← eq_by_] at E_by_ D_by_ st137
  have g_by_ : n0 ≤ by_ := Nat.le_trans Z135 (Nat.le_of_eq eq_by_.symm)
  have O_138 := O_136.ext Ext_by_
  have ne_bx_by_ : bx ≠ by_ := Nat.ne_of_lt (Nat.lt_of_lt_of_le E133.lt (Nat.le_of_eq eq_by_.symm))
  have E_bx_139 := E133.ext Ext_by_
  have F0_bx_140 := F0133.ext Ext_by_
  have F1_bx_141 := F1133.ext Ext_by_
  have F2_bx_142 := F2133.ext Ext_by_
  have F3_bx_143 := F3133.ext Ext_by_
  have Z144 : n0 ≤ h137.size := Nat.le_trans Z135 (Ext_by_.1)
  have F0_by_ : Fld Z h137 by_ "com/example/termite/termite/broker/ShareState$Range" "firstOffset" "J" (.long (0 : Int64)) := D_by_ (Or.inr (hw _ (List.mem_of_getElem? (i := 17) rfl))) (ty := .long) (by decide)
  have F1_by_ : Fld Z h137 by_ "com/example/termite/termite/broker/ShareState$Range" "lastOffset" "J" (.long (0 : Int64)) := D_by_ (Or.inr (hw _ (List.mem_of_getElem? (i := 19) rfl))) (ty := .long) (by decide)
  have F2_by_ : Fld Z h137 by_ "com/example/termite/termite/broker/ShareState$Range" "state" "Lcom/example/termite/termite/broker/RecordState;" .null := D_by_ (Or.inr (hw _ (List.mem_of_getElem? (i := 21) rfl))) (ty := (.object "com/example/termite/termite/broker/RecordState")) (by decide)
  have F3_by_ : Fld Z h137 by_ "com/example/termite/termite/broker/ShareState$Range" "deliveryCount" "S" (.int (0 : Int32)) := D_by_ (Or.inr (hw _ (List.mem_of_getElem? (i := 23) rfl))) (ty := .short) (by decide)
  obtain ⟨_, _, ⟨T145, L145, k145, n145⟩, -, X145, ⟨Lc145, hQ145, l145, y145, z145⟩, st145⟩ := X137.specialBack hx (y := (⟨"com/example/termite/termite/broker/ShareState$Range", "<init>", "(JJLcom/example/termite/termite/broker/RecordState;S)V"⟩ : MethodName)) rfl hown (mvT hZ (hw _ (List.mem_of_getElem? (i := 10) rfl))) (mvT hZ (hw _ (List.mem_of_getElem? (i := 11) rfl))) (mvT hZ (hw _ (List.mem_of_getElem? (i := 12) rfl))) (by decide) (backOf (W := 1) (rmC l Z a0 hw [] by_ f2 l2 t2 d2 h137 n0 Z144 E_by_ F0_by_ F1_by_ F2_by_ F3_by_ g_by_) hZ (hw _ (List.mem_of_getElem? (i := 12) rfl)) (hw _ (List.mem_of_getElem? (i := 9) rfl)) (by decide) (by decide)) (g := (mkF m 140 #[.val (.long q1), .second, .val (.long q2), .second, .val (.long q3), .second, .val (.long q4), .second, .val (.int p5), .val (.int p6), .val (.int z1), .val (.int z2), .val (.int z3), .val (.ref t1), .val (.ref t2), .val (.int d1), .val (.int d2), .val (.long f2), .second, .val (.long l2), .second, .val (.ref bx), .unset, .unset, .unset, .unset, .unset, .unset, .unset] [(.int d2), (.ref t2), (.long l2), (.long f2), (.ref by_), (.ref by_)])) rfl (by rw [hml]; rfl) (Steps.refl _) (a := by_) (argsL := [(.long f2), (.long l2), (.ref t2), (.int d2)]) (rest := [(.ref by_)]) (lenOf pd_3 rfl) rfl (by show 2 * 0 + _ ≤ _; exact Nat.le_of_eq rfl) (hb hby at_140) (fun _ _ => ⟨rfl, e137, (by decide : 2 + 0 ≤ _), (by decide : 8 + 0 ≤ _)⟩)
  dsimp only [Pt.U, Pt.locs, Pt.cells, Pt.slots] at X145 l145 y145 z145 st145 hQ145
  subst l145 y145 z145
  obtain ⟨rfl, N145q, K145, E145, F0145, F1145, F2145, F3145⟩ := hQ145
  have N145 := Fr.app N133 N145q
  have E_bx_147 := E_bx_139.keep K145
  have F0_bx_148 := F0_bx_140.keep K145 (ninS ne_bx_by_ nin0)
  have F1_bx_149 := F1_bx_141.keep K145 (ninS ne_bx_by_ nin0)
  have F2_bx_150 := F2_bx_142.keep K145 (ninS ne_bx_by_ nin0)
  have F3_bx_151 := F3_bx_143.keep K145 (ninS ne_bx_by_ nin0)
  have Z153 : n0 ≤ T145.heap.size := Nat.le_trans Z144 (K145.1)
  have O_154 := O_138.keep K145 (allS g_by_ all0)
  rw [hs_d2] at F3145
  have pre155 : ∀ t_, Steps p.tables e below (T145.setTop (mkF m 149 #[.val (.long q1), .second, .val (.long q2), .second, .val (.long q3), .second, .val (.long q4), .second, .val (.int p5), .val (.int p6), .val (.int z1), .val (.int z2), .val (.int z3), .val (.ref t1), .val (.ref t2), .val (.int d1), .val (.int d2), .val (.long f2), .second, .val (.long l2), .second, .val (.ref bx), .val (.ref by_), .unset, .unset, .unset, .unset, .unset, .unset] [(.int (lcmpW q1 f2))])) t_ → Steps p.tables e below (s₁.setTop (entryFrame m #[(.long q1), (.long q2), (.long q3), (.long q4), (.int p5), (.int p6)] maxLocals)) t_ := fun t_ k_ => pre127 _ (by
    show Steps p.tables e below (T115.setTop (mkF m 111 #[.val (.long q1), .second, .val (.long q2), .second, .val (.long q3), .second, .val (.long q4), .second, .val (.int p5), .val (.int p6), .val (.int z1), .val (.int z2), .val (.int z3), .val (.ref t1), .val (.ref t2), .val (.int d1), .val (.int d2), .val (.long f2), .second, .unset, .unset, .unset, .unset, .unset, .unset, .unset, .unset, .unset, .unset] [(.long l2)])) _
    refine XS.lstore X115.here hx rfl (hb hby at_111) rfl (l' := #[.val (.long q1), .second, .val (.long q2), .second, .val (.long q3), .second, .val (.long q4), .second, .val (.int p5), .val (.int p6), .val (.int z1), .val (.int z2), .val (.int z3), .val (.ref t1), .val (.ref t2), .val (.int d1), .val (.int d2), .val (.long f2), .second, .val (.long l2), .second, .unset, .unset, .unset, .unset, .unset, .unset, .unset, .unset]) rfl ?_
    show Steps p.tables e below (T115.setTop (mkF m 113 #[.val (.long q1), .second, .val (.long q2), .second, .val (.long q3), .second, .val (.long q4), .second, .val (.int p5), .val (.int p6), .val (.int z1), .val (.int z2), .val (.int z3), .val (.ref t1), .val (.ref t2), .val (.int d1), .val (.int d2), .val (.long f2), .second, .val (.long l2), .second, .unset, .unset, .unset, .unset, .unset, .unset, .unset, .unset] [])) _
    refine st130 _ ?_
    show Steps p.tables e below (T130.setTop (mkF m 116 #[.val (.long q1), .second, .val (.long q2), .second, .val (.long q3), .second, .val (.long q4), .second, .val (.int p5), .val (.int p6), .val (.int z1), .val (.int z2), .val (.int z3), .val (.ref t1), .val (.ref t2), .val (.int d1), .val (.int d2), .val (.long f2), .second, .val (.long l2), .second, .unset, .unset, .unset, .unset, .unset, .unset, .unset, .unset] [(.ref bx)])) _
    refine XS.dup X130.here hx rfl (hb hby at_116) rfl rfl ?_
    show Steps p.tables e below (T130.setTop (mkF m 117 #[.val (.long q1), .second, .val (.long q2), .second, .val (.long q3), .second, .val (.long q4), .second, .val (.int p5), .val (.int p6), .val (.int z1), .val (.int z2), .val (.int z3), .val (.ref t1), .val (.ref t2), .val (.int d1), .val (.int d2), .val (.long f2), .second, .val (.long l2), .second, .unset, .unset, .unset, .unset, .unset, .unset, .unset, .unset] [(.ref bx), (.ref bx)])) _
    refine XS.lloadN X130.here hx rfl (hb hby at_117) rfl ?_
    show Steps p.tables e below (T130.setTop (mkF m 118 #[.val (.long q1), .second, .val (.long q2), .second, .val (.long q3), .second, .val (.long q4), .second, .val (.int p5), .val (.int p6), .val (.int z1), .val (.int z2), .val (.int z3), .val (.ref t1), .val (.ref t2), .val (.int d1), .val (.int d2), .val (.long f2), .second, .val (.long l2), .second, .unset, .unset, .unset, .unset, .unset, .unset, .unset, .unset] [(.long q1), (.ref bx), (.ref bx)])) _
    refine XS.lloadN X130.here hx rfl (hb hby at_118) rfl ?_
    show Steps p.tables e below (T130.setTop (mkF m 119 #[.val (.long q1), .second, .val (.long q2), .second, .val (.long q3), .second, .val (.long q4), .second, .val (.int p5), .val (.int p6), .val (.int z1), .val (.int z2), .val (.int z3), .val (.ref t1), .val (.ref t2), .val (.int d1), .val (.int d2), .val (.long f2), .second, .val (.long l2), .second, .unset, .unset, .unset, .unset, .unset, .unset, .unset, .unset] [(.long q2), (.long q1), (.ref bx), (.ref bx)])) _
    refine XS.aload X130.here hx rfl (hb hby at_119) rfl rfl ?_
    show Steps p.tables e below (T130.setTop (mkF m 121 #[.val (.long q1), .second, .val (.long q2), .second, .val (.long q3), .second, .val (.long q4), .second, .val (.int p5), .val (.int p6), .val (.int z1), .val (.int z2), .val (.int z3), .val (.ref t1), .val (.ref t2), .val (.int d1), .val (.int d2), .val (.long f2), .second, .val (.long l2), .second, .unset, .unset, .unset, .unset, .unset, .unset, .unset, .unset] [(.ref t1), (.long q2), (.long q1), (.ref bx), (.ref bx)])) _
    refine XS.iload X130.here hx rfl (hb hby at_121) rfl ?_
    show Steps p.tables e below (T130.setTop (mkF m 123 #[.val (.long q1), .second, .val (.long q2), .second, .val (.long q3), .second, .val (.long q4), .second, .val (.int p5), .val (.int p6), .val (.int z1), .val (.int z2), .val (.int z3), .val (.ref t1), .val (.ref t2), .val (.int d1), .val (.int d2), .val (.long f2), .second, .val (.long l2), .second, .unset, .unset, .unset, .unset, .unset, .unset, .unset, .unset] [(.int d1), (.ref t1), (.long q2), (.long q1), (.ref bx), (.ref bx)])) _
    refine st133.trans ?_
    show Steps p.tables e below (T133.setTop (mkF m 126 #[.val (.long q1), .second, .val (.long q2), .second, .val (.long q3), .second, .val (.long q4), .second, .val (.int p5), .val (.int p6), .val (.int z1), .val (.int z2), .val (.int z3), .val (.ref t1), .val (.ref t2), .val (.int d1), .val (.int d2), .val (.long f2), .second, .val (.long l2), .second, .unset, .unset, .unset, .unset, .unset, .unset, .unset, .unset] [(.ref bx)])) _
    refine XS.astore X133.here hx rfl (hb hby at_126) rfl rfl (l' := #[.val (.long q1), .second, .val (.long q2), .second, .val (.long q3), .second, .val (.long q4), .second, .val (.int p5), .val (.int p6), .val (.int z1), .val (.int z2), .val (.int z3), .val (.ref t1), .val (.ref t2), .val (.int d1), .val (.int d2), .val (.long f2), .second, .val (.long l2), .second, .val (.ref bx), .unset, .unset, .unset, .unset, .unset, .unset, .unset]) rfl ?_
    show Steps p.tables e below (T133.setTop (mkF m 128 #[.val (.long q1), .second, .val (.long q2), .second, .val (.long q3), .second, .val (.long q4), .second, .val (.int p5), .val (.int p6), .val (.int z1), .val (.int z2), .val (.int z3), .val (.ref t1), .val (.ref t2), .val (.int d1), .val (.int d2), .val (.long f2), .second, .val (.long l2), .second, .val (.ref bx), .unset, .unset, .unset, .unset, .unset, .unset, .unset] [])) _
    refine st137 _ ?_
    show Steps p.tables e below (T137.setTop (mkF m 131 #[.val (.long q1), .second, .val (.long q2), .second, .val (.long q3), .second, .val (.long q4), .second, .val (.int p5), .val (.int p6), .val (.int z1), .val (.int z2), .val (.int z3), .val (.ref t1), .val (.ref t2), .val (.int d1), .val (.int d2), .val (.long f2), .second, .val (.long l2), .second, .val (.ref bx), .unset, .unset, .unset, .unset, .unset, .unset, .unset] [(.ref by_)])) _
    refine XS.dup X137.here hx rfl (hb hby at_131) rfl rfl ?_
    show Steps p.tables e below (T137.setTop (mkF m 132 #[.val (.long q1), .second, .val (.long q2), .second, .val (.long q3), .second, .val (.long q4), .second, .val (.int p5), .val (.int p6), .val (.int z1), .val (.int z2), .val (.int z3), .val (.ref t1), .val (.ref t2), .val (.int d1), .val (.int d2), .val (.long f2), .second, .val (.long l2), .second, .val (.ref bx), .unset, .unset, .unset, .unset, .unset, .unset, .unset] [(.ref by_), (.ref by_)])) _
    refine XS.lload X137.here hx rfl (hb hby at_132) rfl ?_
    show Steps p.tables e below (T137.setTop (mkF m 134 #[.val (.long q1), .second, .val (.long q2), .second, .val (.long q3), .second, .val (.long q4), .second, .val (.int p5), .val (.int p6), .val (.int z1), .val (.int z2), .val (.int z3), .val (.ref t1), .val (.ref t2), .val (.int d1), .val (.int d2), .val (.long f2), .second, .val (.long l2), .second, .val (.ref bx), .unset, .unset, .unset, .unset, .unset, .unset, .unset] [(.long f2), (.ref by_), (.ref by_)])) _
    refine XS.lload X137.here hx rfl (hb hby at_134) rfl ?_
    show Steps p.tables e below (T137.setTop (mkF m 136 #[.val (.long q1), .second, .val (.long q2), .second, .val (.long q3), .second, .val (.long q4), .second, .val (.int p5), .val (.int p6), .val (.int z1), .val (.int z2), .val (.int z3), .val (.ref t1), .val (.ref t2), .val (.int d1), .val (.int d2), .val (.long f2), .second, .val (.long l2), .second, .val (.ref bx), .unset, .unset, .unset, .unset, .unset, .unset, .unset] [(.long l2), (.long f2), (.ref by_), (.ref by_)])) _
    refine XS.aload X137.here hx rfl (hb hby at_136) rfl rfl ?_
    show Steps p.tables e below (T137.setTop (mkF m 138 #[.val (.long q1), .second, .val (.long q2), .second, .val (.long q3), .second, .val (.long q4), .second, .val (.int p5), .val (.int p6), .val (.int z1), .val (.int z2), .val (.int z3), .val (.ref t1), .val (.ref t2), .val (.int d1), .val (.int d2), .val (.long f2), .second, .val (.long l2), .second, .val (.ref bx), .unset, .unset, .unset, .unset, .unset, .unset, .unset] [(.ref t2), (.long l2), (.long f2), (.ref by_), (.ref by_)])) _
    refine XS.iload X137.here hx rfl (hb hby at_138) rfl ?_
    show Steps p.tables e below (T137.setTop (mkF m 140 #[.val (.long q1), .second, .val (.long q2), .second, .val (.long q3), .second, .val (.long q4), .second, .val (.int p5), .val (.int p6), .val (.int z1), .val (.int z2), .val (.int z3), .val (.ref t1), .val (.ref t2), .val (.int d1), .val (.int d2), .val (.long f2), .second, .val (.long l2), .second, .val (.ref bx), .unset, .unset, .unset, .unset, .unset, .unset, .unset] [(.int d2), (.ref t2), (.long l2), (.long f2), (.ref by_), (.ref by_)])) _
    refine st145.trans ?_
    show Steps p.tables e below (T145.setTop (mkF m 143 #[.val (.long q1), .second, .val (.long q2), .second, .val (.long q3), .second, .val (.long q4), .second, .val (.int p5), .val (.int p6), .val (.int z1), .val (.int z2), .val (.int z3), .val (.ref t1), .val (.ref t2), .val (.int d1), .val (.int d2), .val (.long f2), .second, .val (.long l2), .second, .val (.ref bx), .unset, .unset, .unset, .unset, .unset, .unset, .unset] [(.ref by_)])) _
    refine XS.astore X145.here hx rfl (hb hby at_143) rfl rfl (l' := #[.val (.long q1), .second, .val (.long q2), .second, .val (.long q3), .second, .val (.long q4), .second, .val (.int p5), .val (.int p6), .val (.int z1), .val (.int z2), .val (.int z3), .val (.ref t1), .val (.ref t2), .val (.int d1), .val (.int d2), .val (.long f2), .second, .val (.long l2), .second, .val (.ref bx), .val (.ref by_), .unset, .unset, .unset, .unset, .unset, .unset]) rfl ?_
    show Steps p.tables e below (T145.setTop (mkF m 145 #[.val (.long q1), .second, .val (.long q2), .second, .val (.long q3), .second, .val (.long q4), .second, .val (.int p5), .val (.int p6), .val (.int z1), .val (.int z2), .val (.int z3), .val (.ref t1), .val (.ref t2), .val (.int d1), .val (.int d2), .val (.long f2), .second, .val (.long l2), .second, .val (.ref bx), .val (.ref by_), .unset, .unset, .unset, .unset, .unset, .unset] [])) _
    refine XS.lloadN X145.here hx rfl (hb hby at_145) rfl ?_
    show Steps p.tables e below (T145.setTop (mkF m 146 #[.val (.long q1), .second, .val (.long q2), .second, .val (.long q3), .second, .val (.long q4), .second, .val (.int p5), .val (.int p6), .val (.int z1), .val (.int z2), .val (.int z3), .val (.ref t1), .val (.ref t2), .val (.int d1), .val (.int d2), .val (.long f2), .second, .val (.long l2), .second, .val (.ref bx), .val (.ref by_), .unset, .unset, .unset, .unset, .unset, .unset] [(.long q1)])) _
    refine XS.lload X145.here hx rfl (hb hby at_146) rfl ?_
    show Steps p.tables e below (T145.setTop (mkF m 148 #[.val (.long q1), .second, .val (.long q2), .second, .val (.long q3), .second, .val (.long q4), .second, .val (.int p5), .val (.int p6), .val (.int z1), .val (.int z2), .val (.int z3), .val (.ref t1), .val (.ref t2), .val (.int d1), .val (.int d2), .val (.long f2), .second, .val (.long l2), .second, .val (.ref bx), .val (.ref by_), .unset, .unset, .unset, .unset, .unset, .unset] [(.long f2), (.long q1)])) _
    refine XS.lcmp X145.here hx rfl (hb hby at_148) rfl ?_
    exact k_)
  obtain ⟨ex, hj_ex, pre156⟩ : ∃ ex : Int32, (ex = own_eq4 q1 q2 t1 d1 f2 l2 t2 d2) ∧ ∀ t_, Steps p.tables e below (T145.setTop (mkF m 178 #[.val (.long q1), .second, .val (.long q2), .second, .val (.long q3), .second, .val (.long q4), .second, .val (.int p5), .val (.int p6), .val (.int z1), .val (.int z2), .val (.int z3), .val (.ref t1), .val (.ref t2), .val (.int d1), .val (.int d2), .val (.long f2), .second, .val (.long l2), .second, .val (.ref bx), .val (.ref by_), .unset, .unset, .unset, .unset, .unset, .unset] [(.int ex)])) t_ → Steps p.tables e below (s₁.setTop (entryFrame m #[(.long q1), (.long q2), (.long q3), (.long q4), (.int p5), (.int p6)] maxLocals)) t_ := by
    by_cases hq0 : q1 = f2
    · skip
      have pre157 : ∀ t_, Steps p.tables e below (T145.setTop (mkF m 156 #[.val (.long q1), .second, .val (.long q2), .second, .val (.long q3), .second, .val (.long q4), .second, .val (.int p5), .val (.int p6), .val (.int z1), .val (.int z2), .val (.int z3), .val (.ref t1), .val (.ref t2), .val (.int d1), .val (.int d2), .val (.long f2), .second, .val (.long l2), .second, .val (.ref bx), .val (.ref by_), .unset, .unset, .unset, .unset, .unset, .unset] [(.int (lcmpW q2 l2))])) t_ → Steps p.tables e below (s₁.setTop (entryFrame m #[(.long q1), (.long q2), (.long q3), (.long q4), (.int p5), (.int p6)] maxLocals)) t_ := fun t_ k_ => pre155 _ (by
        show Steps p.tables e below (T145.setTop (mkF m 149 #[.val (.long q1), .second, .val (.long q2), .second, .val (.long q3), .second, .val (.long q4), .second, .val (.int p5), .val (.int p6), .val (.int z1), .val (.int z2), .val (.int z3), .val (.ref t1), .val (.ref t2), .val (.int d1), .val (.int d2), .val (.long f2), .second, .val (.long l2), .second, .val (.ref bx), .val (.ref by_), .unset, .unset, .unset, .unset, .unset, .unset] [(.int (lcmpW q1 f2))])) _
        refine XS.ifNo X145.here hx rfl (hb hby at_149) rfl ((if0 _ _).trans (teq ((lw_eq _ _).mpr hq0)).2) ?_
        show Steps p.tables e below (T145.setTop (mkF m 152 #[.val (.long q1), .second, .val (.long q2), .second, .val (.long q3), .second, .val (.long q4), .second, .val (.int p5), .val (.int p6), .val (.int z1), .val (.int z2), .val (.int z3), .val (.ref t1), .val (.ref t2), .val (.int d1), .val (.int d2), .val (.long f2), .second, .val (.long l2), .second, .val (.ref bx), .val (.ref by_), .unset, .unset, .unset, .unset, .unset, .unset] [])) _
        refine XS.lloadN X145.here hx rfl (hb hby at_152) rfl ?_
        show Steps p.tables e below (T145.setTop (mkF m 153 #[.val (.long q1), .second, .val (.long q2), .second, .val (.long q3), .second, .val (.long q4), .second, .val (.int p5), .val (.int p6), .val (.int z1), .val (.int z2), .val (.int z3), .val (.ref t1), .val (.ref t2), .val (.int d1), .val (.int d2), .val (.long f2), .second, .val (.long l2), .second, .val (.ref bx), .val (.ref by_), .unset, .unset, .unset, .unset, .unset, .unset] [(.long q2)])) _
        refine XS.lload X145.here hx rfl (hb hby at_153) rfl ?_
        show Steps p.tables e below (T145.setTop (mkF m 155 #[.val (.long q1), .second, .val (.long q2), .second, .val (.long q3), .second, .val (.long q4), .second, .val (.int p5), .val (.int p6), .val (.int z1), .val (.int z2), .val (.int z3), .val (.ref t1), .val (.ref t2), .val (.int d1), .val (.int d2), .val (.long f2), .second, .val (.long l2), .second, .val (.ref bx), .val (.ref by_), .unset, .unset, .unset, .unset, .unset, .unset] [(.long l2), (.long q2)])) _
        refine XS.lcmp X145.here hx rfl (hb hby at_155) rfl ?_
        exact k_)
      by_cases hq1 : q2 = l2
      · skip
        have pre158 : ∀ t_, Steps p.tables e below (T145.setTop (mkF m 163 #[.val (.long q1), .second, .val (.long q2), .second, .val (.long q3), .second, .val (.long q4), .second, .val (.int p5), .val (.int p6), .val (.int z1), .val (.int z2), .val (.int z3), .val (.ref t1), .val (.ref t2), .val (.int d1), .val (.int d2), .val (.long f2), .second, .val (.long l2), .second, .val (.ref bx), .val (.ref by_), .unset, .unset, .unset, .unset, .unset, .unset] [(.ref t2), (.ref t1)])) t_ → Steps p.tables e below (s₁.setTop (entryFrame m #[(.long q1), (.long q2), (.long q3), (.long q4), (.int p5), (.int p6)] maxLocals)) t_ := fun t_ k_ => pre157 _ (by
          show Steps p.tables e below (T145.setTop (mkF m 156 #[.val (.long q1), .second, .val (.long q2), .second, .val (.long q3), .second, .val (.long q4), .second, .val (.int p5), .val (.int p6), .val (.int z1), .val (.int z2), .val (.int z3), .val (.ref t1), .val (.ref t2), .val (.int d1), .val (.int d2), .val (.long f2), .second, .val (.long l2), .second, .val (.ref bx), .val (.ref by_), .unset, .unset, .unset, .unset, .unset, .unset] [(.int (lcmpW q2 l2))])) _
          refine XS.ifNo X145.here hx rfl (hb hby at_156) rfl ((if0 _ _).trans (teq ((lw_eq _ _).mpr hq1)).2) ?_
          show Steps p.tables e below (T145.setTop (mkF m 159 #[.val (.long q1), .second, .val (.long q2), .second, .val (.long q3), .second, .val (.long q4), .second, .val (.int p5), .val (.int p6), .val (.int z1), .val (.int z2), .val (.int z3), .val (.ref t1), .val (.ref t2), .val (.int d1), .val (.int d2), .val (.long f2), .second, .val (.long l2), .second, .val (.ref bx), .val (.ref by_), .unset, .unset, .unset, .unset, .unset, .unset] [])) _
          refine XS.aload X145.here hx rfl (hb hby at_159) rfl rfl ?_
          show Steps p.tables e below (T145.setTop (mkF m 161 #[.val (.long q1), .second, .val (.long q2), .second, .val (.long q3), .second, .val (.long q4), .second, .val (.int p5), .val (.int p6), .val (.int z1), .val (.int z2), .val (.int z3), .val (.ref t1), .val (.ref t2), .val (.int d1), .val (.int d2), .val (.long f2), .second, .val (.long l2), .second, .val (.ref bx), .val (.ref by_), .unset, .unset, .unset, .unset, .unset, .unset] [(.ref t1)])) _
          refine XS.aload X145.here hx rfl (hb hby at_161) rfl rfl ?_
          exact k_)
        by_cases hq2 : t1 = t2
        · skip
          have pre159 : ∀ t_, Steps p.tables e below (T145.setTop (mkF m 170 #[.val (.long q1), .second, .val (.long q2), .second, .val (.long q3), .second, .val (.long q4), .second, .val (.int p5), .val (.int p6), .val (.int z1), .val (.int z2), .val (.int z3), .val (.ref t1), .val (.ref t2), .val (.int d1), .val (.int d2), .val (.long f2), .second, .val (.long l2), .second, .val (.ref bx), .val (.ref by_), .unset, .unset, .unset, .unset, .unset, .unset] [(.int d2), (.int d1)])) t_ → Steps p.tables e below (s₁.setTop (entryFrame m #[(.long q1), (.long q2), (.long q3), (.long q4), (.int p5), (.int p6)] maxLocals)) t_ := fun t_ k_ => pre158 _ (by
            show Steps p.tables e below (T145.setTop (mkF m 163 #[.val (.long q1), .second, .val (.long q2), .second, .val (.long q3), .second, .val (.long q4), .second, .val (.int p5), .val (.int p6), .val (.int z1), .val (.int z2), .val (.int z3), .val (.ref t1), .val (.ref t2), .val (.int d1), .val (.int d2), .val (.long f2), .second, .val (.long l2), .second, .val (.ref bx), .val (.ref by_), .unset, .unset, .unset, .unset, .unset, .unset] [(.ref t2), (.ref t1)])) _
            refine Jvm.RoadKit.acmp (g := (mkF m 163 #[.val (.long q1), .second, .val (.long q2), .second, .val (.long q3), .second, .val (.long q4), .second, .val (.int p5), .val (.int p6), .val (.int z1), .val (.int z2), .val (.int z3), .val (.ref t1), .val (.ref t2), .val (.int d1), .val (.int d2), .val (.long f2), .second, .val (.long l2), .second, .val (.ref bx), .val (.ref by_), .unset, .unset, .unset, .unset, .unset, .unset] [(.ref t2), (.ref t1)])) X145 hx rfl rfl rfl (pc0 := 163) (pc' := 166) (same := true) rfl (hb hby at_163) rfl (decide_eq_true (congrArg Value.ref hq2)) (by decide) (by decide) ?_
            show Steps p.tables e below (T145.setTop (mkF m 166 #[.val (.long q1), .second, .val (.long q2), .second, .val (.long q3), .second, .val (.long q4), .second, .val (.int p5), .val (.int p6), .val (.int z1), .val (.int z2), .val (.int z3), .val (.ref t1), .val (.ref t2), .val (.int d1), .val (.int d2), .val (.long f2), .second, .val (.long l2), .second, .val (.ref bx), .val (.ref by_), .unset, .unset, .unset, .unset, .unset, .unset] [])) _
            refine XS.iload X145.here hx rfl (hb hby at_166) rfl ?_
            show Steps p.tables e below (T145.setTop (mkF m 168 #[.val (.long q1), .second, .val (.long q2), .second, .val (.long q3), .second, .val (.long q4), .second, .val (.int p5), .val (.int p6), .val (.int z1), .val (.int z2), .val (.int z3), .val (.ref t1), .val (.ref t2), .val (.int d1), .val (.int d2), .val (.long f2), .second, .val (.long l2), .second, .val (.ref bx), .val (.ref by_), .unset, .unset, .unset, .unset, .unset, .unset] [(.int d1)])) _
            refine XS.iload X145.here hx rfl (hb hby at_168) rfl ?_
            exact k_)
          by_cases hq3 : d1 = d2
          · skip
            have pre160 : ∀ t_, Steps p.tables e below (T145.setTop (mkF m 178 #[.val (.long q1), .second, .val (.long q2), .second, .val (.long q3), .second, .val (.long q4), .second, .val (.int p5), .val (.int p6), .val (.int z1), .val (.int z2), .val (.int z3), .val (.ref t1), .val (.ref t2), .val (.int d1), .val (.int d2), .val (.long f2), .second, .val (.long l2), .second, .val (.ref bx), .val (.ref by_), .unset, .unset, .unset, .unset, .unset, .unset] [(.int (1 : Int32))])) t_ → Steps p.tables e below (s₁.setTop (entryFrame m #[(.long q1), (.long q2), (.long q3), (.long q4), (.int p5), (.int p6)] maxLocals)) t_ := fun t_ k_ => pre159 _ (by
              show Steps p.tables e below (T145.setTop (mkF m 170 #[.val (.long q1), .second, .val (.long q2), .second, .val (.long q3), .second, .val (.long q4), .second, .val (.int p5), .val (.int p6), .val (.int z1), .val (.int z2), .val (.int z3), .val (.ref t1), .val (.ref t2), .val (.int d1), .val (.int d2), .val (.long f2), .second, .val (.long l2), .second, .val (.ref bx), .val (.ref by_), .unset, .unset, .unset, .unset, .unset, .unset] [(.int d2), (.int d1)])) _
              refine XS.icmpNo X145.here hx rfl (hb hby at_170) rfl (teq hq3).2 ?_
              show Steps p.tables e below (T145.setTop (mkF m 173 #[.val (.long q1), .second, .val (.long q2), .second, .val (.long q3), .second, .val (.long q4), .second, .val (.int p5), .val (.int p6), .val (.int z1), .val (.int z2), .val (.int z3), .val (.ref t1), .val (.ref t2), .val (.int d1), .val (.int d2), .val (.long f2), .second, .val (.long l2), .second, .val (.ref bx), .val (.ref by_), .unset, .unset, .unset, .unset, .unset, .unset] [])) _
              refine XS.iconst X145.here hx rfl (hb hby at_173) ?_
              show Steps p.tables e below (T145.setTop (mkF m 174 #[.val (.long q1), .second, .val (.long q2), .second, .val (.long q3), .second, .val (.long q4), .second, .val (.int p5), .val (.int p6), .val (.int z1), .val (.int z2), .val (.int z3), .val (.ref t1), .val (.ref t2), .val (.int d1), .val (.int d2), .val (.long f2), .second, .val (.long l2), .second, .val (.ref bx), .val (.ref by_), .unset, .unset, .unset, .unset, .unset, .unset] [(.int (1 : Int32))])) _
              refine XS.goto X145.here hx rfl (pc0 := 174) (pc' := 178) rfl (hb hby at_174) (by decide) (by decide) ?_
              exact k_)
            exact ⟨(1 : Int32), (by rw [own_eq4, if_pos hq0, if_pos hq1, if_pos hq2, if_pos hq3]), pre160⟩
          · skip
            have pre161 : ∀ t_, Steps p.tables e below (T145.setTop (mkF m 178 #[.val (.long q1), .second, .val (.long q2), .second, .val (.long q3), .second, .val (.long q4), .second, .val (.int p5), .val (.int p6), .val (.int z1), .val (.int z2), .val (.int z3), .val (.ref t1), .val (.ref t2), .val (.int d1), .val (.int d2), .val (.long f2), .second, .val (.long l2), .second, .val (.ref bx), .val (.ref by_), .unset, .unset, .unset, .unset, .unset, .unset] [(.int (0 : Int32))])) t_ → Steps p.tables e below (s₁.setTop (entryFrame m #[(.long q1), (.long q2), (.long q3), (.long q4), (.int p5), (.int p6)] maxLocals)) t_ := fun t_ k_ => pre159 _ (by
              show Steps p.tables e below (T145.setTop (mkF m 170 #[.val (.long q1), .second, .val (.long q2), .second, .val (.long q3), .second, .val (.long q4), .second, .val (.int p5), .val (.int p6), .val (.int z1), .val (.int z2), .val (.int z3), .val (.ref t1), .val (.ref t2), .val (.int d1), .val (.int d2), .val (.long f2), .second, .val (.long l2), .second, .val (.ref bx), .val (.ref by_), .unset, .unset, .unset, .unset, .unset, .unset] [(.int d2), (.int d1)])) _
              refine XS.icmpYes X145.here hx rfl (pc0 := 170) (pc' := 177) rfl (hb hby at_170) rfl (feq hq3).2 (by decide) (by decide) ?_
              show Steps p.tables e below (T145.setTop (mkF m 177 #[.val (.long q1), .second, .val (.long q2), .second, .val (.long q3), .second, .val (.long q4), .second, .val (.int p5), .val (.int p6), .val (.int z1), .val (.int z2), .val (.int z3), .val (.ref t1), .val (.ref t2), .val (.int d1), .val (.int d2), .val (.long f2), .second, .val (.long l2), .second, .val (.ref bx), .val (.ref by_), .unset, .unset, .unset, .unset, .unset, .unset] [])) _
              refine XS.iconst X145.here hx rfl (hb hby at_177) ?_
              exact k_)
            exact ⟨(0 : Int32), (by rw [own_eq4, if_pos hq0, if_pos hq1, if_pos hq2, if_neg hq3]), pre161⟩
        · skip
          have pre162 : ∀ t_, Steps p.tables e below (T145.setTop (mkF m 178 #[.val (.long q1), .second, .val (.long q2), .second, .val (.long q3), .second, .val (.long q4), .second, .val (.int p5), .val (.int p6), .val (.int z1), .val (.int z2), .val (.int z3), .val (.ref t1), .val (.ref t2), .val (.int d1), .val (.int d2), .val (.long f2), .second, .val (.long l2), .second, .val (.ref bx), .val (.ref by_), .unset, .unset, .unset, .unset, .unset, .unset] [(.int (0 : Int32))])) t_ → Steps p.tables e below (s₁.setTop (entryFrame m #[(.long q1), (.long q2), (.long q3), (.long q4), (.int p5), (.int p6)] maxLocals)) t_ := fun t_ k_ => pre158 _ (by
            show Steps p.tables e below (T145.setTop (mkF m 163 #[.val (.long q1), .second, .val (.long q2), .second, .val (.long q3), .second, .val (.long q4), .second, .val (.int p5), .val (.int p6), .val (.int z1), .val (.int z2), .val (.int z3), .val (.ref t1), .val (.ref t2), .val (.int d1), .val (.int d2), .val (.long f2), .second, .val (.long l2), .second, .val (.ref bx), .val (.ref by_), .unset, .unset, .unset, .unset, .unset, .unset] [(.ref t2), (.ref t1)])) _
            refine Jvm.RoadKit.acmp (g := (mkF m 163 #[.val (.long q1), .second, .val (.long q2), .second, .val (.long q3), .second, .val (.long q4), .second, .val (.int p5), .val (.int p6), .val (.int z1), .val (.int z2), .val (.int z3), .val (.ref t1), .val (.ref t2), .val (.int d1), .val (.int d2), .val (.long f2), .second, .val (.long l2), .second, .val (.ref bx), .val (.ref by_), .unset, .unset, .unset, .unset, .unset, .unset] [(.ref t2), (.ref t1)])) X145 hx rfl rfl rfl (pc0 := 163) (pc' := 177) (same := false) rfl (hb hby at_163) rfl (decide_eq_false fun q => hq2 (Value.ref.inj q)) (by decide) (by decide) ?_
            show Steps p.tables e below (T145.setTop (mkF m 177 #[.val (.long q1), .second, .val (.long q2), .second, .val (.long q3), .second, .val (.long q4), .second, .val (.int p5), .val (.int p6), .val (.int z1), .val (.int z2), .val (.int z3), .val (.ref t1), .val (.ref t2), .val (.int d1), .val (.int d2), .val (.long f2), .second, .val (.long l2), .second, .val (.ref bx), .val (.ref by_), .unset, .unset, .unset, .unset, .unset, .unset] [])) _
            refine XS.iconst X145.here hx rfl (hb hby at_177) ?_
            exact k_)
          exact ⟨(0 : Int32), (by rw [own_eq4, if_pos hq0, if_pos hq1, if_neg hq2]), pre162⟩
      · skip
        have pre163 : ∀ t_, Steps p.tables e below (T145.setTop (mkF m 178 #[.val (.long q1), .second, .val (.long q2), .second, .val (.long q3), .second, .val (.long q4), .second, .val (.int p5), .val (.int p6), .val (.int z1), .val (.int z2), .val (.int z3), .val (.ref t1), .val (.ref t2), .val (.int d1), .val (.int d2), .val (.long f2), .second, .val (.long l2), .second, .val (.ref bx), .val (.ref by_), .unset, .unset, .unset, .unset, .unset, .unset] [(.int (0 : Int32))])) t_ → Steps p.tables e below (s₁.setTop (entryFrame m #[(.long q1), (.long q2), (.long q3), (.long q4), (.int p5), (.int p6)] maxLocals)) t_ := fun t_ k_ => pre157 _ (by
          show Steps p.tables e below (T145.setTop (mkF m 156 #[.val (.long q1), .second, .val (.long q2), .second, .val (.long q3), .second, .val (.long q4), .second, .val (.int p5), .val (.int p6), .val (.int z1), .val (.int z2), .val (.int z3), .val (.ref t1), .val (.ref t2), .val (.int d1), .val (.int d2), .val (.long f2), .second, .val (.long l2), .second, .val (.ref bx), .val (.ref by_), .unset, .unset, .unset, .unset, .unset, .unset] [(.int (lcmpW q2 l2))])) _
          refine XS.ifYes X145.here hx rfl (pc0 := 156) (pc' := 177) rfl (hb hby at_156) rfl ((if0 _ _).trans (feq (mt (lw_eq _ _).mp hq1)).2) (by decide) (by decide) ?_
          show Steps p.tables e below (T145.setTop (mkF m 177 #[.val (.long q1), .second, .val (.long q2), .second, .val (.long q3), .second, .val (.long q4), .second, .val (.int p5), .val (.int p6), .val (.int z1), .val (.int z2), .val (.int z3), .val (.ref t1), .val (.ref t2), .val (.int d1), .val (.int d2), .val (.long f2), .second, .val (.long l2), .second, .val (.ref bx), .val (.ref by_), .unset, .unset, .unset, .unset, .unset, .unset] [])) _
          refine XS.iconst X145.here hx rfl (hb hby at_177) ?_
          exact k_)
        exact ⟨(0 : Int32), (by rw [own_eq4, if_pos hq0, if_neg hq1]), pre163⟩
    · skip
      have pre164 : ∀ t_, Steps p.tables e below (T145.setTop (mkF m 178 #[.val (.long q1), .second, .val (.long q2), .second, .val (.long q3), .second, .val (.long q4), .second, .val (.int p5), .val (.int p6), .val (.int z1), .val (.int z2), .val (.int z3), .val (.ref t1), .val (.ref t2), .val (.int d1), .val (.int d2), .val (.long f2), .second, .val (.long l2), .second, .val (.ref bx), .val (.ref by_), .unset, .unset, .unset, .unset, .unset, .unset] [(.int (0 : Int32))])) t_ → Steps p.tables e below (s₁.setTop (entryFrame m #[(.long q1), (.long q2), (.long q3), (.long q4), (.int p5), (.int p6)] maxLocals)) t_ := fun t_ k_ => pre155 _ (by
        show Steps p.tables e below (T145.setTop (mkF m 149 #[.val (.long q1), .second, .val (.long q2), .second, .val (.long q3), .second, .val (.long q4), .second, .val (.int p5), .val (.int p6), .val (.int z1), .val (.int z2), .val (.int z3), .val (.ref t1), .val (.ref t2), .val (.int d1), .val (.int d2), .val (.long f2), .second, .val (.long l2), .second, .val (.ref bx), .val (.ref by_), .unset, .unset, .unset, .unset, .unset, .unset] [(.int (lcmpW q1 f2))])) _
        refine XS.ifYes X145.here hx rfl (pc0 := 149) (pc' := 177) rfl (hb hby at_149) rfl ((if0 _ _).trans (feq (mt (lw_eq _ _).mp hq0)).2) (by decide) (by decide) ?_
        show Steps p.tables e below (T145.setTop (mkF m 177 #[.val (.long q1), .second, .val (.long q2), .second, .val (.long q3), .second, .val (.long q4), .second, .val (.int p5), .val (.int p6), .val (.int z1), .val (.int z2), .val (.int z3), .val (.ref t1), .val (.ref t2), .val (.int d1), .val (.int d2), .val (.long f2), .second, .val (.long l2), .second, .val (.ref bx), .val (.ref by_), .unset, .unset, .unset, .unset, .unset, .unset] [])) _
        refine XS.iconst X145.here hx rfl (hb hby at_177) ?_
        exact k_)
      exact ⟨(0 : Int32), (by rw [own_eq4, if_neg hq0]), pre164⟩
  obtain ⟨cq165, kq165, q165a, q165b, q165c⟩ := isOf hZ rfl E_bx_147
  obtain ⟨_, _, ⟨T165, L165, k165, n165⟩, -, X165, ⟨Lc165, hQ165, l165, y165, z165⟩, st165⟩ := X145.virtualBack hx (y := (⟨"com/example/termite/termite/broker/ShareState$Range", "equals", "(Ljava/lang/Object;)Z"⟩ : MethodName)) (z := (⟨"com/example/termite/termite/broker/ShareState$Range", "equals", "(Ljava/lang/Object;)Z"⟩ : MethodName)) hown (mvT hZ (hw _ (List.mem_of_getElem? (i := 24) rfl))) (mvT hZ (hw _ (List.mem_of_getElem? (i := 25) rfl))) (notFace_of_selects (args := #[]) (mvT hZ (hw _ (List.mem_of_getElem? (i := 27) rfl)))) (mvT hZ (hw _ (List.mem_of_getElem? (i := 27) rfl))) (mvT hZ (hw _ (List.mem_of_getElem? (i := 26) rfl))) (by decide) (backOf (W := 0) (rmE2 l Z a0 hw [] bx by_ q1 q2 t1 d1 f2 l2 t2 d2 T145.heap n0 Z153 E145 F0_bx_148 F1_bx_149 F2_bx_150 F3_bx_151 F0145 F1145 F2145 F3145) hZ (hw _ (List.mem_of_getElem? (i := 28) rfl)) (hw _ (List.mem_of_getElem? (i := 9) rfl)) (by decide) (by decide)) q165a q165c (g := (mkF m 184 #[.val (.long q1), .second, .val (.long q2), .second, .val (.long q3), .second, .val (.long q4), .second, .val (.int p5), .val (.int p6), .val (.int z1), .val (.int z2), .val (.int z3), .val (.ref t1), .val (.ref t2), .val (.int d1), .val (.int d2), .val (.long f2), .second, .val (.long l2), .second, .val (.ref bx), .val (.ref by_), .val (.int ex), .unset, .unset, .unset, .unset, .unset] [(.ref by_), (.ref bx)])) rfl (by rw [hml]; rfl) (Steps.refl _) (argsL := [(.ref by_)]) (rest := []) (lenOf pd_4 rfl) rfl (by show 2 * 0 + _ ≤ _; exact Nat.le_of_eq rfl) (hb hby at_184) (fun _ _ => ⟨rfl, rfl, (by decide : 2 + 0 ≤ _), (by decide : 8 + 0 ≤ _)⟩)
  dsimp only [Pt.U, Pt.locs, Pt.cells, Pt.slots] at X165 l165 y165 z165 st165 hQ165
  subst l165 y165 z165
  obtain ⟨rfl, N165q, e165⟩ := hQ165
  have N165 := Fr.app N145 N165q
  obtain ⟨cq166, kq166, q166a, q166b, q166c⟩ := isOf hZ e165 E145
  obtain ⟨_, _, ⟨T166, L166, k166, n166⟩, -, X166, ⟨Lc166, hQ166, l166, y166, z166⟩, st166⟩ := X165.virtualBack hx (y := (⟨"com/example/termite/termite/broker/ShareState$Range", "equals", "(Ljava/lang/Object;)Z"⟩ : MethodName)) (z := (⟨"com/example/termite/termite/broker/ShareState$Range", "equals", "(Ljava/lang/Object;)Z"⟩ : MethodName)) hown (mvT hZ (hw _ (List.mem_of_getElem? (i := 24) rfl))) (mvT hZ (hw _ (List.mem_of_getElem? (i := 25) rfl))) (notFace_of_selects (args := #[]) (mvT hZ (hw _ (List.mem_of_getElem? (i := 27) rfl)))) (mvT hZ (hw _ (List.mem_of_getElem? (i := 27) rfl))) (mvT hZ (hw _ (List.mem_of_getElem? (i := 26) rfl))) (by decide) (backOf (W := 0) (rmE2 l Z a0 hw [] by_ bx f2 l2 t2 d2 q1 q2 t1 d1 T145.heap n0 Z153 E_bx_147 F0145 F1145 F2145 F3145 F0_bx_148 F1_bx_149 F2_bx_150 F3_bx_151) hZ (hw _ (List.mem_of_getElem? (i := 28) rfl)) (hw _ (List.mem_of_getElem? (i := 9) rfl)) (by decide) (by decide)) q166a q166c (g := (mkF m 193 #[.val (.long q1), .second, .val (.long q2), .second, .val (.long q3), .second, .val (.long q4), .second, .val (.int p5), .val (.int p6), .val (.int z1), .val (.int z2), .val (.int z3), .val (.ref t1), .val (.ref t2), .val (.int d1), .val (.int d2), .val (.long f2), .second, .val (.long l2), .second, .val (.ref bx), .val (.ref by_), .val (.int ex), .val (.int (own_eq4 q1 q2 t1 d1 f2 l2 t2 d2)), .unset, .unset, .unset, .unset] [(.ref bx), (.ref by_)])) rfl (by rw [hml]; rfl) (Steps.refl _) (argsL := [(.ref bx)]) (rest := []) (lenOf pd_4 rfl) rfl (by show 2 * 0 + _ ≤ _; exact Nat.le_of_eq rfl) (hb hby at_193) (fun _ _ => ⟨rfl, e165, (by decide : 2 + 0 ≤ _), (by decide : 8 + 0 ≤ _)⟩)
  dsimp only [Pt.U, Pt.locs, Pt.cells, Pt.slots] at X166 l166 y166 z166 st166 hQ166
  subst l166 y166 z166
  obtain ⟨rfl, N166q, e166⟩ := hQ166
  have N166 := Fr.app N165 N166q
  obtain ⟨cq167, kq167, q167a, q167b, q167c⟩ := isOf hZ e166 E_bx_147
  obtain ⟨_, _, ⟨T167, L167, k167, n167⟩, -, X167, ⟨Lc167, hQ167, l167, y167, z167⟩, st167⟩ := X166.virtualBack hx (y := (⟨"com/example/termite/termite/broker/ShareState$Range", "equals", "(Ljava/lang/Object;)Z"⟩ : MethodName)) (z := (⟨"com/example/termite/termite/broker/ShareState$Range", "equals", "(Ljava/lang/Object;)Z"⟩ : MethodName)) hown (mvT hZ (hw _ (List.mem_of_getElem? (i := 24) rfl))) (mvT hZ (hw _ (List.mem_of_getElem? (i := 25) rfl))) (notFace_of_selects (args := #[]) (mvT hZ (hw _ (List.mem_of_getElem? (i := 27) rfl)))) (mvT hZ (hw _ (List.mem_of_getElem? (i := 27) rfl))) (mvT hZ (hw _ (List.mem_of_getElem? (i := 26) rfl))) (by decide) (backOf (W := 0) (rmE2 l Z a0 hw [] bx bx q1 q2 t1 d1 q1 q2 t1 d1 T145.heap n0 Z153 E_bx_147 F0_bx_148 F1_bx_149 F2_bx_150 F3_bx_151 F0_bx_148 F1_bx_149 F2_bx_150 F3_bx_151) hZ (hw _ (List.mem_of_getElem? (i := 28) rfl)) (hw _ (List.mem_of_getElem? (i := 9) rfl)) (by decide) (by decide)) q167a q167c (g := (mkF m 202 #[.val (.long q1), .second, .val (.long q2), .second, .val (.long q3), .second, .val (.long q4), .second, .val (.int p5), .val (.int p6), .val (.int z1), .val (.int z2), .val (.int z3), .val (.ref t1), .val (.ref t2), .val (.int d1), .val (.int d2), .val (.long f2), .second, .val (.long l2), .second, .val (.ref bx), .val (.ref by_), .val (.int ex), .val (.int (own_eq4 q1 q2 t1 d1 f2 l2 t2 d2)), .val (.int (own_eq4 f2 l2 t2 d2 q1 q2 t1 d1)), .unset, .unset, .unset] [(.ref bx), (.ref bx)])) rfl (by rw [hml]; rfl) (Steps.refl _) (argsL := [(.ref bx)]) (rest := []) (lenOf pd_4 rfl) rfl (by show 2 * 0 + _ ≤ _; exact Nat.le_of_eq rfl) (hb hby at_202) (fun _ _ => ⟨rfl, e166, (by decide : 2 + 0 ≤ _), (by decide : 8 + 0 ≤ _)⟩)
  dsimp only [Pt.U, Pt.locs, Pt.cells, Pt.slots] at X167 l167 y167 z167 st167 hQ167
  subst l167 y167 z167
  obtain ⟨rfl, N167q, e167⟩ := hQ167
  have N167 := Fr.app N166 N167q
  obtain ⟨cq168, kq168, q168a, q168b, q168c⟩ := isOf hZ e167 E_bx_147
  obtain ⟨_, _, ⟨T168, L168, k168, n168⟩, -, X168, ⟨Lc168, hQ168, l168, y168, z168⟩, st168⟩ := X167.virtualBack hx (y := (⟨"com/example/termite/termite/broker/ShareState$Range", "equals", "(Ljava/lang/Object;)Z"⟩ : MethodName)) (z := (⟨"com/example/termite/termite/broker/ShareState$Range", "equals", "(Ljava/lang/Object;)Z"⟩ : MethodName)) hown (mvT hZ (hw _ (List.mem_of_getElem? (i := 24) rfl))) (mvT hZ (hw _ (List.mem_of_getElem? (i := 25) rfl))) (notFace_of_selects (args := #[]) (mvT hZ (hw _ (List.mem_of_getElem? (i := 27) rfl)))) (mvT hZ (hw _ (List.mem_of_getElem? (i := 27) rfl))) (mvT hZ (hw _ (List.mem_of_getElem? (i := 26) rfl))) (by decide) (backOf (W := 0) (rmE0 l Z a0 hw [] bx T145.heap n0 Z153 ) hZ (hw _ (List.mem_of_getElem? (i := 28) rfl)) (hw _ (List.mem_of_getElem? (i := 9) rfl)) (by decide) (by decide)) q168a q168c (g := (mkF m 210 #[.val (.long q1), .second, .val (.long q2), .second, .val (.long q3), .second, .val (.long q4), .second, .val (.int p5), .val (.int p6), .val (.int z1), .val (.int z2), .val (.int z3), .val (.ref t1), .val (.ref t2), .val (.int d1), .val (.int d2), .val (.long f2), .second, .val (.long l2), .second, .val (.ref bx), .val (.ref by_), .val (.int ex), .val (.int (own_eq4 q1 q2 t1 d1 f2 l2 t2 d2)), .val (.int (own_eq4 f2 l2 t2 d2 q1 q2 t1 d1)), .val (.int (own_eq4 q1 q2 t1 d1 q1 q2 t1 d1)), .unset, .unset] [.null, (.ref bx)])) rfl (by rw [hml]; rfl) (Steps.refl _) (argsL := [.null]) (rest := []) (lenOf pd_4 rfl) rfl (by show 2 * 0 + _ ≤ _; exact Nat.le_of_eq rfl) (hb hby at_210) (fun _ _ => ⟨rfl, e167, (by decide : 2 + 0 ≤ _), (by decide : 8 + 0 ≤ _)⟩)
  dsimp only [Pt.U, Pt.locs, Pt.cells, Pt.slots] at X168 l168 y168 z168 st168 hQ168
  subst l168 y168 z168
  obtain ⟨rfl, N168q, e168⟩ := hQ168
  have N168 := Fr.app N167 N168q
  obtain ⟨_, _, ⟨T169, L169, k169, n169⟩, -, X169, ⟨Lc169, hQ169, l169, y169, z169⟩, st169⟩ := Jvm.LawKit.callS X168 hx (y := (⟨"java/lang/Integer", "valueOf", "(I)Ljava/lang/Integer;"⟩ : MethodName)) hown (mvT hZ (hw _ (List.mem_of_getElem? (i := 31) rfl))) (mvT hZ (hw _ (List.mem_of_getElem? (i := 32) rfl))) (mvT hZ (hw _ (List.mem_of_getElem? (i := 33) rfl))) (mvT hZ (hw _ (List.mem_of_getElem? (i := 34) rfl))) (by decide) (backOf (W := 1) (rmV l Z a0 hw [] p6 ca cc T145.heap n0 Z153 O_154 S_high S_cache B_c) hZ (hw _ (List.mem_of_getElem? (i := 34) rfl)) (hw _ (List.mem_of_getElem? (i := 33) rfl)) (by decide) (by decide)) (g := (mkF m 227 #[.val (.long q1), .second, .val (.long q2), .second, .val (.long q3), .second, .val (.long q4), .second, .val (.int p5), .val (.int p6), .val (.int z1), .val (.int z2), .val (.int z3), .val (.ref t1), .val (.ref t2), .val (.int d1), .val (.int d2), .val (.long f2), .second, .val (.long l2), .second, .val (.ref bx), .val (.ref by_), .val (.int ex), .val (.int (own_eq4 q1 q2 t1 d1 f2 l2 t2 d2)), .val (.int (own_eq4 f2 l2 t2 d2 q1 q2 t1 d1)), .val (.int (own_eq4 q1 q2 t1 d1 q1 q2 t1 d1)), .val (.int (1 : Int32)), .unset] [(.int p6), (.ref bx)])) rfl (by rw [hml]; rfl) (argsL := [(.int p6)]) (rest := [(.ref bx)]) (lenOf pd_5 rfl) rfl (by show 2 * 0 + _ ≤ _; exact Nat.le_of_eq rfl) (hb hby at_227) (fun _ _ => ⟨rfl, e168, (by decide : 2 + 1 ≤ _), (by decide : 8 + 1 ≤ _)⟩)
  dsimp only [Pt.U, Pt.locs, Pt.cells, Pt.slots] at X169 l169 y169 z169 st169 hQ169
  subst l169 y169 z169
  obtain ⟨bi169, rfl, N169q, K169, Ei169⟩ := hQ169
  have N169 := Fr.app N168 N169q
  have E_bx_171 := E_bx_147.keep K169
  have F0_bx_172 := F0_bx_148.keep K169 nin0
  have F1_bx_173 := F1_bx_149.keep K169 nin0
  have F2_bx_174 := F2_bx_150.keep K169 nin0
  have F3_bx_175 := F3_bx_151.keep K169 nin0
  have E_by__177 := E145.keep K169
  have F0_by__178 := F0145.keep K169 nin0
  have F1_by__179 := F1145.keep K169 nin0
  have F2_by__180 := F2145.keep K169 nin0
  have F3_by__181 := F3145.keep K169 nin0
  have Z182 : n0 ≤ T169.heap.size := Nat.le_trans Z153 (K169.1)
  obtain ⟨cq183, kq183, q183a, q183b, q183c⟩ := isOf hZ rfl E_bx_171
  obtain ⟨_, _, ⟨T183, L183, k183, n183⟩, -, X183, ⟨Lc183, hQ183, l183, y183, z183⟩, st183⟩ := X169.virtualBack hx (y := (⟨"com/example/termite/termite/broker/ShareState$Range", "equals", "(Ljava/lang/Object;)Z"⟩ : MethodName)) (z := (⟨"com/example/termite/termite/broker/ShareState$Range", "equals", "(Ljava/lang/Object;)Z"⟩ : MethodName)) hown (mvT hZ (hw _ (List.mem_of_getElem? (i := 24) rfl))) (mvT hZ (hw _ (List.mem_of_getElem? (i := 25) rfl))) (notFace_of_selects (args := #[]) (mvT hZ (hw _ (List.mem_of_getElem? (i := 27) rfl)))) (mvT hZ (hw _ (List.mem_of_getElem? (i := 27) rfl))) (mvT hZ (hw _ (List.mem_of_getElem? (i := 26) rfl))) (by decide) (backOf (W := 0) (rmE1 l Z a0 hw [] bx bi169 T169.heap n0 Z182 Ei169) hZ (hw _ (List.mem_of_getElem? (i := 28) rfl)) (hw _ (List.mem_of_getElem? (i := 9) rfl)) (by decide) (by decide)) q183a q183c (g := (mkF m 230 #[.val (.long q1), .second, .val (.long q2), .second, .val (.long q3), .second, .val (.long q4), .second, .val (.int p5), .val (.int p6), .val (.int z1), .val (.int z2), .val (.int z3), .val (.ref t1), .val (.ref t2), .val (.int d1), .val (.int d2), .val (.long f2), .second, .val (.long l2), .second, .val (.ref bx), .val (.ref by_), .val (.int ex), .val (.int (own_eq4 q1 q2 t1 d1 f2 l2 t2 d2)), .val (.int (own_eq4 f2 l2 t2 d2 q1 q2 t1 d1)), .val (.int (own_eq4 q1 q2 t1 d1 q1 q2 t1 d1)), .val (.int (1 : Int32)), .unset] [(.ref bi169), (.ref bx)])) rfl (by rw [hml]; rfl) (Steps.refl _) (argsL := [(.ref bi169)]) (rest := []) (lenOf pd_4 rfl) rfl (by show 2 * 0 + _ ≤ _; exact Nat.le_of_eq rfl) (hb hby at_230) (fun _ _ => ⟨rfl, rfl, (by decide : 3 + 0 ≤ _), (by decide : 9 + 0 ≤ _)⟩)
  dsimp only [Pt.U, Pt.locs, Pt.cells, Pt.slots] at X183 l183 y183 z183 st183 hQ183
  subst l183 y183 z183
  obtain ⟨rfl, N183q, e183⟩ := hQ183
  have N183 := Fr.app N169 N183q
  have pre184 : ∀ t_, Steps p.tables e below (T183.setTop (mkF m 277 #[.val (.long q1), .second, .val (.long q2), .second, .val (.long q3), .second, .val (.long q4), .second, .val (.int p5), .val (.int p6), .val (.int z1), .val (.int z2), .val (.int z3), .val (.ref t1), .val (.ref t2), .val (.int d1), .val (.int d2), .val (.long f2), .second, .val (.long l2), .second, .val (.ref bx), .val (.ref by_), .val (.int ex), .val (.int (own_eq4 q1 q2 t1 d1 f2 l2 t2 d2)), .val (.int (own_eq4 f2 l2 t2 d2 q1 q2 t1 d1)), .val (.int (own_eq4 q1 q2 t1 d1 q1 q2 t1 d1)), .val (.int (1 : Int32)), .val (.int (1 : Int32))] [(.int (1 : Int32))])) t_ → Steps p.tables e below (s₁.setTop (entryFrame m #[(.long q1), (.long q2), (.long q3), (.long q4), (.int p5), (.int p6)] maxLocals)) t_ := fun t_ k_ => pre156 _ (by
    show Steps p.tables e below (T145.setTop (mkF m 178 #[.val (.long q1), .second, .val (.long q2), .second, .val (.long q3), .second, .val (.long q4), .second, .val (.int p5), .val (.int p6), .val (.int z1), .val (.int z2), .val (.int z3), .val (.ref t1), .val (.ref t2), .val (.int d1), .val (.int d2), .val (.long f2), .second, .val (.long l2), .second, .val (.ref bx), .val (.ref by_), .unset, .unset, .unset, .unset, .unset, .unset] [(.int ex)])) _
    refine XS.istore X145.here hx rfl (hb hby at_178) rfl (l' := #[.val (.long q1), .second, .val (.long q2), .second, .val (.long q3), .second, .val (.long q4), .second, .val (.int p5), .val (.int p6), .val (.int z1), .val (.int z2), .val (.int z3), .val (.ref t1), .val (.ref t2), .val (.int d1), .val (.int d2), .val (.long f2), .second, .val (.long l2), .second, .val (.ref bx), .val (.ref by_), .val (.int ex), .unset, .unset, .unset, .unset, .unset]) rfl ?_
    show Steps p.tables e below (T145.setTop (mkF m 180 #[.val (.long q1), .second, .val (.long q2), .second, .val (.long q3), .second, .val (.long q4), .second, .val (.int p5), .val (.int p6), .val (.int z1), .val (.int z2), .val (.int z3), .val (.ref t1), .val (.ref t2), .val (.int d1), .val (.int d2), .val (.long f2), .second, .val (.long l2), .second, .val (.ref bx), .val (.ref by_), .val (.int ex), .unset, .unset, .unset, .unset, .unset] [])) _
    refine XS.aload X145.here hx rfl (hb hby at_180) rfl rfl ?_
    show Steps p.tables e below (T145.setTop (mkF m 182 #[.val (.long q1), .second, .val (.long q2), .second, .val (.long q3), .second, .val (.long q4), .second, .val (.int p5), .val (.int p6), .val (.int z1), .val (.int z2), .val (.int z3), .val (.ref t1), .val (.ref t2), .val (.int d1), .val (.int d2), .val (.long f2), .second, .val (.long l2), .second, .val (.ref bx), .val (.ref by_), .val (.int ex), .unset, .unset, .unset, .unset, .unset] [(.ref bx)])) _
    refine XS.aload X145.here hx rfl (hb hby at_182) rfl rfl ?_
    show Steps p.tables e below (T145.setTop (mkF m 184 #[.val (.long q1), .second, .val (.long q2), .second, .val (.long q3), .second, .val (.long q4), .second, .val (.int p5), .val (.int p6), .val (.int z1), .val (.int z2), .val (.int z3), .val (.ref t1), .val (.ref t2), .val (.int d1), .val (.int d2), .val (.long f2), .second, .val (.long l2), .second, .val (.ref bx), .val (.ref by_), .val (.int ex), .unset, .unset, .unset, .unset, .unset] [(.ref by_), (.ref bx)])) _
    refine st165.trans ?_
    show Steps p.tables e below (T165.setTop (mkF m 187 #[.val (.long q1), .second, .val (.long q2), .second, .val (.long q3), .second, .val (.long q4), .second, .val (.int p5), .val (.int p6), .val (.int z1), .val (.int z2), .val (.int z3), .val (.ref t1), .val (.ref t2), .val (.int d1), .val (.int d2), .val (.long f2), .second, .val (.long l2), .second, .val (.ref bx), .val (.ref by_), .val (.int ex), .unset, .unset, .unset, .unset, .unset] [(.int (own_eq4 q1 q2 t1 d1 f2 l2 t2 d2))])) _
    refine XS.istore X165.here hx rfl (hb hby at_187) rfl (l' := #[.val (.long q1), .second, .val (.long q2), .second, .val (.long q3), .second, .val (.long q4), .second, .val (.int p5), .val (.int p6), .val (.int z1), .val (.int z2), .val (.int z3), .val (.ref t1), .val (.ref t2), .val (.int d1), .val (.int d2), .val (.long f2), .second, .val (.long l2), .second, .val (.ref bx), .val (.ref by_), .val (.int ex), .val (.int (own_eq4 q1 q2 t1 d1 f2 l2 t2 d2)), .unset, .unset, .unset, .unset]) rfl ?_
    show Steps p.tables e below (T165.setTop (mkF m 189 #[.val (.long q1), .second, .val (.long q2), .second, .val (.long q3), .second, .val (.long q4), .second, .val (.int p5), .val (.int p6), .val (.int z1), .val (.int z2), .val (.int z3), .val (.ref t1), .val (.ref t2), .val (.int d1), .val (.int d2), .val (.long f2), .second, .val (.long l2), .second, .val (.ref bx), .val (.ref by_), .val (.int ex), .val (.int (own_eq4 q1 q2 t1 d1 f2 l2 t2 d2)), .unset, .unset, .unset, .unset] [])) _
    refine XS.aload X165.here hx rfl (hb hby at_189) rfl rfl ?_
    show Steps p.tables e below (T165.setTop (mkF m 191 #[.val (.long q1), .second, .val (.long q2), .second, .val (.long q3), .second, .val (.long q4), .second, .val (.int p5), .val (.int p6), .val (.int z1), .val (.int z2), .val (.int z3), .val (.ref t1), .val (.ref t2), .val (.int d1), .val (.int d2), .val (.long f2), .second, .val (.long l2), .second, .val (.ref bx), .val (.ref by_), .val (.int ex), .val (.int (own_eq4 q1 q2 t1 d1 f2 l2 t2 d2)), .unset, .unset, .unset, .unset] [(.ref by_)])) _
    refine XS.aload X165.here hx rfl (hb hby at_191) rfl rfl ?_
    show Steps p.tables e below (T165.setTop (mkF m 193 #[.val (.long q1), .second, .val (.long q2), .second, .val (.long q3), .second, .val (.long q4), .second, .val (.int p5), .val (.int p6), .val (.int z1), .val (.int z2), .val (.int z3), .val (.ref t1), .val (.ref t2), .val (.int d1), .val (.int d2), .val (.long f2), .second, .val (.long l2), .second, .val (.ref bx), .val (.ref by_), .val (.int ex), .val (.int (own_eq4 q1 q2 t1 d1 f2 l2 t2 d2)), .unset, .unset, .unset, .unset] [(.ref bx), (.ref by_)])) _
    refine st166.trans ?_
    show Steps p.tables e below (T166.setTop (mkF m 196 #[.val (.long q1), .second, .val (.long q2), .second, .val (.long q3), .second, .val (.long q4), .second, .val (.int p5), .val (.int p6), .val (.int z1), .val (.int z2), .val (.int z3), .val (.ref t1), .val (.ref t2), .val (.int d1), .val (.int d2), .val (.long f2), .second, .val (.long l2), .second, .val (.ref bx), .val (.ref by_), .val (.int ex), .val (.int (own_eq4 q1 q2 t1 d1 f2 l2 t2 d2)), .unset, .unset, .unset, .unset] [(.int (own_eq4 f2 l2 t2 d2 q1 q2 t1 d1))])) _
    refine XS.istore X166.here hx rfl (hb hby at_196) rfl (l' := #[.val (.long q1), .second, .val (.long q2), .second, .val (.long q3), .second, .val (.long q4), .second, .val (.int p5), .val (.int p6), .val (.int z1), .val (.int z2), .val (.int z3), .val (.ref t1), .val (.ref t2), .val (.int d1), .val (.int d2), .val (.long f2), .second, .val (.long l2), .second, .val (.ref bx), .val (.ref by_), .val (.int ex), .val (.int (own_eq4 q1 q2 t1 d1 f2 l2 t2 d2)), .val (.int (own_eq4 f2 l2 t2 d2 q1 q2 t1 d1)), .unset, .unset, .unset]) rfl ?_
    show Steps p.tables e below (T166.setTop (mkF m 198 #[.val (.long q1), .second, .val (.long q2), .second, .val (.long q3), .second, .val (.long q4), .second, .val (.int p5), .val (.int p6), .val (.int z1), .val (.int z2), .val (.int z3), .val (.ref t1), .val (.ref t2), .val (.int d1), .val (.int d2), .val (.long f2), .second, .val (.long l2), .second, .val (.ref bx), .val (.ref by_), .val (.int ex), .val (.int (own_eq4 q1 q2 t1 d1 f2 l2 t2 d2)), .val (.int (own_eq4 f2 l2 t2 d2 q1 q2 t1 d1)), .unset, .unset, .unset] [])) _
    refine XS.aload X166.here hx rfl (hb hby at_198) rfl rfl ?_
    show Steps p.tables e below (T166.setTop (mkF m 200 #[.val (.long q1), .second, .val (.long q2), .second, .val (.long q3), .second, .val (.long q4), .second, .val (.int p5), .val (.int p6), .val (.int z1), .val (.int z2), .val (.int z3), .val (.ref t1), .val (.ref t2), .val (.int d1), .val (.int d2), .val (.long f2), .second, .val (.long l2), .second, .val (.ref bx), .val (.ref by_), .val (.int ex), .val (.int (own_eq4 q1 q2 t1 d1 f2 l2 t2 d2)), .val (.int (own_eq4 f2 l2 t2 d2 q1 q2 t1 d1)), .unset, .unset, .unset] [(.ref bx)])) _
    refine XS.aload X166.here hx rfl (hb hby at_200) rfl rfl ?_
    show Steps p.tables e below (T166.setTop (mkF m 202 #[.val (.long q1), .second, .val (.long q2), .second, .val (.long q3), .second, .val (.long q4), .second, .val (.int p5), .val (.int p6), .val (.int z1), .val (.int z2), .val (.int z3), .val (.ref t1), .val (.ref t2), .val (.int d1), .val (.int d2), .val (.long f2), .second, .val (.long l2), .second, .val (.ref bx), .val (.ref by_), .val (.int ex), .val (.int (own_eq4 q1 q2 t1 d1 f2 l2 t2 d2)), .val (.int (own_eq4 f2 l2 t2 d2 q1 q2 t1 d1)), .unset, .unset, .unset] [(.ref bx), (.ref bx)])) _
    refine st167.trans ?_
    show Steps p.tables e below (T167.setTop (mkF m 205 #[.val (.long q1), .second, .val (.long q2), .second, .val (.long q3), .second, .val (.long q4), .second, .val (.int p5), .val (.int p6), .val (.int z1), .val (.int z2), .val (.int z3), .val (.ref t1), .val (.ref t2), .val (.int d1), .val (.int d2), .val (.long f2), .second, .val (.long l2), .second, .val (.ref bx), .val (.ref by_), .val (.int ex), .val (.int (own_eq4 q1 q2 t1 d1 f2 l2 t2 d2)), .val (.int (own_eq4 f2 l2 t2 d2 q1 q2 t1 d1)), .unset, .unset, .unset] [(.int (own_eq4 q1 q2 t1 d1 q1 q2 t1 d1))])) _
    refine XS.istore X167.here hx rfl (hb hby at_205) rfl (l' := #[.val (.long q1), .second, .val (.long q2), .second, .val (.long q3), .second, .val (.long q4), .second, .val (.int p5), .val (.int p6), .val (.int z1), .val (.int z2), .val (.int z3), .val (.ref t1), .val (.ref t2), .val (.int d1), .val (.int d2), .val (.long f2), .second, .val (.long l2), .second, .val (.ref bx), .val (.ref by_), .val (.int ex), .val (.int (own_eq4 q1 q2 t1 d1 f2 l2 t2 d2)), .val (.int (own_eq4 f2 l2 t2 d2 q1 q2 t1 d1)), .val (.int (own_eq4 q1 q2 t1 d1 q1 q2 t1 d1)), .unset, .unset]) rfl ?_
    show Steps p.tables e below (T167.setTop (mkF m 207 #[.val (.long q1), .second, .val (.long q2), .second, .val (.long q3), .second, .val (.long q4), .second, .val (.int p5), .val (.int p6), .val (.int z1), .val (.int z2), .val (.int z3), .val (.ref t1), .val (.ref t2), .val (.int d1), .val (.int d2), .val (.long f2), .second, .val (.long l2), .second, .val (.ref bx), .val (.ref by_), .val (.int ex), .val (.int (own_eq4 q1 q2 t1 d1 f2 l2 t2 d2)), .val (.int (own_eq4 f2 l2 t2 d2 q1 q2 t1 d1)), .val (.int (own_eq4 q1 q2 t1 d1 q1 q2 t1 d1)), .unset, .unset] [])) _
    refine XS.aload X167.here hx rfl (hb hby at_207) rfl rfl ?_
    show Steps p.tables e below (T167.setTop (mkF m 209 #[.val (.long q1), .second, .val (.long q2), .second, .val (.long q3), .second, .val (.long q4), .second, .val (.int p5), .val (.int p6), .val (.int z1), .val (.int z2), .val (.int z3), .val (.ref t1), .val (.ref t2), .val (.int d1), .val (.int d2), .val (.long f2), .second, .val (.long l2), .second, .val (.ref bx), .val (.ref by_), .val (.int ex), .val (.int (own_eq4 q1 q2 t1 d1 f2 l2 t2 d2)), .val (.int (own_eq4 f2 l2 t2 d2 q1 q2 t1 d1)), .val (.int (own_eq4 q1 q2 t1 d1 q1 q2 t1 d1)), .unset, .unset] [(.ref bx)])) _
    refine XS.aconstNull X167.here hx rfl (hb hby at_209) ?_
    show Steps p.tables e below (T167.setTop (mkF m 210 #[.val (.long q1), .second, .val (.long q2), .second, .val (.long q3), .second, .val (.long q4), .second, .val (.int p5), .val (.int p6), .val (.int z1), .val (.int z2), .val (.int z3), .val (.ref t1), .val (.ref t2), .val (.int d1), .val (.int d2), .val (.long f2), .second, .val (.long l2), .second, .val (.ref bx), .val (.ref by_), .val (.int ex), .val (.int (own_eq4 q1 q2 t1 d1 f2 l2 t2 d2)), .val (.int (own_eq4 f2 l2 t2 d2 q1 q2 t1 d1)), .val (.int (own_eq4 q1 q2 t1 d1 q1 q2 t1 d1)), .unset, .unset] [.null, (.ref bx)])) _
    refine st168.trans ?_
    show Steps p.tables e below (T168.setTop (mkF m 213 #[.val (.long q1), .second, .val (.long q2), .second, .val (.long q3), .second, .val (.long q4), .second, .val (.int p5), .val (.int p6), .val (.int z1), .val (.int z2), .val (.int z3), .val (.ref t1), .val (.ref t2), .val (.int d1), .val (.int d2), .val (.long f2), .second, .val (.long l2), .second, .val (.ref bx), .val (.ref by_), .val (.int ex), .val (.int (own_eq4 q1 q2 t1 d1 f2 l2 t2 d2)), .val (.int (own_eq4 f2 l2 t2 d2 q1 q2 t1 d1)), .val (.int (own_eq4 q1 q2 t1 d1 q1 q2 t1 d1)), .unset, .unset] [(.int (0 : Int32))])) _
    refine XS.ifNo X168.here hx rfl (hb hby at_213) rfl ((if0 _ _).trans (teq (rfl : (0 : Int32) = 0)).2) ?_
    show Steps p.tables e below (T168.setTop (mkF m 216 #[.val (.long q1), .second, .val (.long q2), .second, .val (.long q3), .second, .val (.long q4), .second, .val (.int p5), .val (.int p6), .val (.int z1), .val (.int z2), .val (.int z3), .val (.ref t1), .val (.ref t2), .val (.int d1), .val (.int d2), .val (.long f2), .second, .val (.long l2), .second, .val (.ref bx), .val (.ref by_), .val (.int ex), .val (.int (own_eq4 q1 q2 t1 d1 f2 l2 t2 d2)), .val (.int (own_eq4 f2 l2 t2 d2 q1 q2 t1 d1)), .val (.int (own_eq4 q1 q2 t1 d1 q1 q2 t1 d1)), .unset, .unset] [])) _
    refine XS.iconst X168.here hx rfl (hb hby at_216) ?_
    show Steps p.tables e below (T168.setTop (mkF m 217 #[.val (.long q1), .second, .val (.long q2), .second, .val (.long q3), .second, .val (.long q4), .second, .val (.int p5), .val (.int p6), .val (.int z1), .val (.int z2), .val (.int z3), .val (.ref t1), .val (.ref t2), .val (.int d1), .val (.int d2), .val (.long f2), .second, .val (.long l2), .second, .val (.ref bx), .val (.ref by_), .val (.int ex), .val (.int (own_eq4 q1 q2 t1 d1 f2 l2 t2 d2)), .val (.int (own_eq4 f2 l2 t2 d2 q1 q2 t1 d1)), .val (.int (own_eq4 q1 q2 t1 d1 q1 q2 t1 d1)), .unset, .unset] [(.int (1 : Int32))])) _
    refine XS.goto X168.here hx rfl (pc0 := 217) (pc' := 221) rfl (hb hby at_217) (by decide) (by decide) ?_
    show Steps p.tables e below (T168.setTop (mkF m 221 #[.val (.long q1), .second, .val (.long q2), .second, .val (.long q3), .second, .val (.long q4), .second, .val (.int p5), .val (.int p6), .val (.int z1), .val (.int z2), .val (.int z3), .val (.ref t1), .val (.ref t2), .val (.int d1), .val (.int d2), .val (.long f2), .second, .val (.long l2), .second, .val (.ref bx), .val (.ref by_), .val (.int ex), .val (.int (own_eq4 q1 q2 t1 d1 f2 l2 t2 d2)), .val (.int (own_eq4 f2 l2 t2 d2 q1 q2 t1 d1)), .val (.int (own_eq4 q1 q2 t1 d1 q1 q2 t1 d1)), .unset, .unset] [(.int (1 : Int32))])) _
    refine XS.istore X168.here hx rfl (hb hby at_221) rfl (l' := #[.val (.long q1), .second, .val (.long q2), .second, .val (.long q3), .second, .val (.long q4), .second, .val (.int p5), .val (.int p6), .val (.int z1), .val (.int z2), .val (.int z3), .val (.ref t1), .val (.ref t2), .val (.int d1), .val (.int d2), .val (.long f2), .second, .val (.long l2), .second, .val (.ref bx), .val (.ref by_), .val (.int ex), .val (.int (own_eq4 q1 q2 t1 d1 f2 l2 t2 d2)), .val (.int (own_eq4 f2 l2 t2 d2 q1 q2 t1 d1)), .val (.int (own_eq4 q1 q2 t1 d1 q1 q2 t1 d1)), .val (.int (1 : Int32)), .unset]) rfl ?_
    show Steps p.tables e below (T168.setTop (mkF m 223 #[.val (.long q1), .second, .val (.long q2), .second, .val (.long q3), .second, .val (.long q4), .second, .val (.int p5), .val (.int p6), .val (.int z1), .val (.int z2), .val (.int z3), .val (.ref t1), .val (.ref t2), .val (.int d1), .val (.int d2), .val (.long f2), .second, .val (.long l2), .second, .val (.ref bx), .val (.ref by_), .val (.int ex), .val (.int (own_eq4 q1 q2 t1 d1 f2 l2 t2 d2)), .val (.int (own_eq4 f2 l2 t2 d2 q1 q2 t1 d1)), .val (.int (own_eq4 q1 q2 t1 d1 q1 q2 t1 d1)), .val (.int (1 : Int32)), .unset] [])) _
    refine XS.aload X168.here hx rfl (hb hby at_223) rfl rfl ?_
    show Steps p.tables e below (T168.setTop (mkF m 225 #[.val (.long q1), .second, .val (.long q2), .second, .val (.long q3), .second, .val (.long q4), .second, .val (.int p5), .val (.int p6), .val (.int z1), .val (.int z2), .val (.int z3), .val (.ref t1), .val (.ref t2), .val (.int d1), .val (.int d2), .val (.long f2), .second, .val (.long l2), .second, .val (.ref bx), .val (.ref by_), .val (.int ex), .val (.int (own_eq4 q1 q2 t1 d1 f2 l2 t2 d2)), .val (.int (own_eq4 f2 l2 t2 d2 q1 q2 t1 d1)), .val (.int (own_eq4 q1 q2 t1 d1 q1 q2 t1 d1)), .val (.int (1 : Int32)), .unset] [(.ref bx)])) _
    refine XS.iload X168.here hx rfl (hb hby at_225) rfl ?_
    show Steps p.tables e below (T168.setTop (mkF m 227 #[.val (.long q1), .second, .val (.long q2), .second, .val (.long q3), .second, .val (.long q4), .second, .val (.int p5), .val (.int p6), .val (.int z1), .val (.int z2), .val (.int z3), .val (.ref t1), .val (.ref t2), .val (.int d1), .val (.int d2), .val (.long f2), .second, .val (.long l2), .second, .val (.ref bx), .val (.ref by_), .val (.int ex), .val (.int (own_eq4 q1 q2 t1 d1 f2 l2 t2 d2)), .val (.int (own_eq4 f2 l2 t2 d2 q1 q2 t1 d1)), .val (.int (own_eq4 q1 q2 t1 d1 q1 q2 t1 d1)), .val (.int (1 : Int32)), .unset] [(.int p6), (.ref bx)])) _
    refine st169 _ ?_
    show Steps p.tables e below (T169.setTop (mkF m 230 #[.val (.long q1), .second, .val (.long q2), .second, .val (.long q3), .second, .val (.long q4), .second, .val (.int p5), .val (.int p6), .val (.int z1), .val (.int z2), .val (.int z3), .val (.ref t1), .val (.ref t2), .val (.int d1), .val (.int d2), .val (.long f2), .second, .val (.long l2), .second, .val (.ref bx), .val (.ref by_), .val (.int ex), .val (.int (own_eq4 q1 q2 t1 d1 f2 l2 t2 d2)), .val (.int (own_eq4 f2 l2 t2 d2 q1 q2 t1 d1)), .val (.int (own_eq4 q1 q2 t1 d1 q1 q2 t1 d1)), .val (.int (1 : Int32)), .unset] [(.ref bi169), (.ref bx)])) _
    refine st183.trans ?_
    show Steps p.tables e below (T183.setTop (mkF m 233 #[.val (.long q1), .second, .val (.long q2), .second, .val (.long q3), .second, .val (.long q4), .second, .val (.int p5), .val (.int p6), .val (.int z1), .val (.int z2), .val (.int z3), .val (.ref t1), .val (.ref t2), .val (.int d1), .val (.int d2), .val (.long f2), .second, .val (.long l2), .second, .val (.ref bx), .val (.ref by_), .val (.int ex), .val (.int (own_eq4 q1 q2 t1 d1 f2 l2 t2 d2)), .val (.int (own_eq4 f2 l2 t2 d2 q1 q2 t1 d1)), .val (.int (own_eq4 q1 q2 t1 d1 q1 q2 t1 d1)), .val (.int (1 : Int32)), .unset] [(.int (0 : Int32))])) _
    refine XS.ifNo X183.here hx rfl (hb hby at_233) rfl ((if0 _ _).trans (teq (rfl : (0 : Int32) = 0)).2) ?_
    show Steps p.tables e below (T183.setTop (mkF m 236 #[.val (.long q1), .second, .val (.long q2), .second, .val (.long q3), .second, .val (.long q4), .second, .val (.int p5), .val (.int p6), .val (.int z1), .val (.int z2), .val (.int z3), .val (.ref t1), .val (.ref t2), .val (.int d1), .val (.int d2), .val (.long f2), .second, .val (.long l2), .second, .val (.ref bx), .val (.ref by_), .val (.int ex), .val (.int (own_eq4 q1 q2 t1 d1 f2 l2 t2 d2)), .val (.int (own_eq4 f2 l2 t2 d2 q1 q2 t1 d1)), .val (.int (own_eq4 q1 q2 t1 d1 q1 q2 t1 d1)), .val (.int (1 : Int32)), .unset] [])) _
    refine XS.iconst X183.here hx rfl (hb hby at_236) ?_
    show Steps p.tables e below (T183.setTop (mkF m 237 #[.val (.long q1), .second, .val (.long q2), .second, .val (.long q3), .second, .val (.long q4), .second, .val (.int p5), .val (.int p6), .val (.int z1), .val (.int z2), .val (.int z3), .val (.ref t1), .val (.ref t2), .val (.int d1), .val (.int d2), .val (.long f2), .second, .val (.long l2), .second, .val (.ref bx), .val (.ref by_), .val (.int ex), .val (.int (own_eq4 q1 q2 t1 d1 f2 l2 t2 d2)), .val (.int (own_eq4 f2 l2 t2 d2 q1 q2 t1 d1)), .val (.int (own_eq4 q1 q2 t1 d1 q1 q2 t1 d1)), .val (.int (1 : Int32)), .unset] [(.int (1 : Int32))])) _
    refine XS.goto X183.here hx rfl (pc0 := 237) (pc' := 241) rfl (hb hby at_237) (by decide) (by decide) ?_
    show Steps p.tables e below (T183.setTop (mkF m 241 #[.val (.long q1), .second, .val (.long q2), .second, .val (.long q3), .second, .val (.long q4), .second, .val (.int p5), .val (.int p6), .val (.int z1), .val (.int z2), .val (.int z3), .val (.ref t1), .val (.ref t2), .val (.int d1), .val (.int d2), .val (.long f2), .second, .val (.long l2), .second, .val (.ref bx), .val (.ref by_), .val (.int ex), .val (.int (own_eq4 q1 q2 t1 d1 f2 l2 t2 d2)), .val (.int (own_eq4 f2 l2 t2 d2 q1 q2 t1 d1)), .val (.int (own_eq4 q1 q2 t1 d1 q1 q2 t1 d1)), .val (.int (1 : Int32)), .unset] [(.int (1 : Int32))])) _
    refine XS.istore X183.here hx rfl (hb hby at_241) rfl (l' := #[.val (.long q1), .second, .val (.long q2), .second, .val (.long q3), .second, .val (.long q4), .second, .val (.int p5), .val (.int p6), .val (.int z1), .val (.int z2), .val (.int z3), .val (.ref t1), .val (.ref t2), .val (.int d1), .val (.int d2), .val (.long f2), .second, .val (.long l2), .second, .val (.ref bx), .val (.ref by_), .val (.int ex), .val (.int (own_eq4 q1 q2 t1 d1 f2 l2 t2 d2)), .val (.int (own_eq4 f2 l2 t2 d2 q1 q2 t1 d1)), .val (.int (own_eq4 q1 q2 t1 d1 q1 q2 t1 d1)), .val (.int (1 : Int32)), .val (.int (1 : Int32))]) rfl ?_
    show Steps p.tables e below (T183.setTop (mkF m 243 #[.val (.long q1), .second, .val (.long q2), .second, .val (.long q3), .second, .val (.long q4), .second, .val (.int p5), .val (.int p6), .val (.int z1), .val (.int z2), .val (.int z3), .val (.ref t1), .val (.ref t2), .val (.int d1), .val (.int d2), .val (.long f2), .second, .val (.long l2), .second, .val (.ref bx), .val (.ref by_), .val (.int ex), .val (.int (own_eq4 q1 q2 t1 d1 f2 l2 t2 d2)), .val (.int (own_eq4 f2 l2 t2 d2 q1 q2 t1 d1)), .val (.int (own_eq4 q1 q2 t1 d1 q1 q2 t1 d1)), .val (.int (1 : Int32)), .val (.int (1 : Int32))] [])) _
    refine XS.iload X183.here hx rfl (hb hby at_243) rfl ?_
    show Steps p.tables e below (T183.setTop (mkF m 245 #[.val (.long q1), .second, .val (.long q2), .second, .val (.long q3), .second, .val (.long q4), .second, .val (.int p5), .val (.int p6), .val (.int z1), .val (.int z2), .val (.int z3), .val (.ref t1), .val (.ref t2), .val (.int d1), .val (.int d2), .val (.long f2), .second, .val (.long l2), .second, .val (.ref bx), .val (.ref by_), .val (.int ex), .val (.int (own_eq4 q1 q2 t1 d1 f2 l2 t2 d2)), .val (.int (own_eq4 f2 l2 t2 d2 q1 q2 t1 d1)), .val (.int (own_eq4 q1 q2 t1 d1 q1 q2 t1 d1)), .val (.int (1 : Int32)), .val (.int (1 : Int32))] [(.int (own_eq4 q1 q2 t1 d1 f2 l2 t2 d2))])) _
    refine XS.iload X183.here hx rfl (hb hby at_245) rfl ?_
    show Steps p.tables e below (T183.setTop (mkF m 247 #[.val (.long q1), .second, .val (.long q2), .second, .val (.long q3), .second, .val (.long q4), .second, .val (.int p5), .val (.int p6), .val (.int z1), .val (.int z2), .val (.int z3), .val (.ref t1), .val (.ref t2), .val (.int d1), .val (.int d2), .val (.long f2), .second, .val (.long l2), .second, .val (.ref bx), .val (.ref by_), .val (.int ex), .val (.int (own_eq4 q1 q2 t1 d1 f2 l2 t2 d2)), .val (.int (own_eq4 f2 l2 t2 d2 q1 q2 t1 d1)), .val (.int (own_eq4 q1 q2 t1 d1 q1 q2 t1 d1)), .val (.int (1 : Int32)), .val (.int (1 : Int32))] [(.int ex), (.int (own_eq4 q1 q2 t1 d1 f2 l2 t2 d2))])) _
    refine XS.icmpNo X183.here hx rfl (hb hby at_247) rfl (teq hj_ex.symm).2 ?_
    show Steps p.tables e below (T183.setTop (mkF m 250 #[.val (.long q1), .second, .val (.long q2), .second, .val (.long q3), .second, .val (.long q4), .second, .val (.int p5), .val (.int p6), .val (.int z1), .val (.int z2), .val (.int z3), .val (.ref t1), .val (.ref t2), .val (.int d1), .val (.int d2), .val (.long f2), .second, .val (.long l2), .second, .val (.ref bx), .val (.ref by_), .val (.int ex), .val (.int (own_eq4 q1 q2 t1 d1 f2 l2 t2 d2)), .val (.int (own_eq4 f2 l2 t2 d2 q1 q2 t1 d1)), .val (.int (own_eq4 q1 q2 t1 d1 q1 q2 t1 d1)), .val (.int (1 : Int32)), .val (.int (1 : Int32))] [])) _
    refine XS.iload X183.here hx rfl (hb hby at_250) rfl ?_
    show Steps p.tables e below (T183.setTop (mkF m 252 #[.val (.long q1), .second, .val (.long q2), .second, .val (.long q3), .second, .val (.long q4), .second, .val (.int p5), .val (.int p6), .val (.int z1), .val (.int z2), .val (.int z3), .val (.ref t1), .val (.ref t2), .val (.int d1), .val (.int d2), .val (.long f2), .second, .val (.long l2), .second, .val (.ref bx), .val (.ref by_), .val (.int ex), .val (.int (own_eq4 q1 q2 t1 d1 f2 l2 t2 d2)), .val (.int (own_eq4 f2 l2 t2 d2 q1 q2 t1 d1)), .val (.int (own_eq4 q1 q2 t1 d1 q1 q2 t1 d1)), .val (.int (1 : Int32)), .val (.int (1 : Int32))] [(.int (own_eq4 f2 l2 t2 d2 q1 q2 t1 d1))])) _
    refine XS.iload X183.here hx rfl (hb hby at_252) rfl ?_
    show Steps p.tables e below (T183.setTop (mkF m 254 #[.val (.long q1), .second, .val (.long q2), .second, .val (.long q3), .second, .val (.long q4), .second, .val (.int p5), .val (.int p6), .val (.int z1), .val (.int z2), .val (.int z3), .val (.ref t1), .val (.ref t2), .val (.int d1), .val (.int d2), .val (.long f2), .second, .val (.long l2), .second, .val (.ref bx), .val (.ref by_), .val (.int ex), .val (.int (own_eq4 q1 q2 t1 d1 f2 l2 t2 d2)), .val (.int (own_eq4 f2 l2 t2 d2 q1 q2 t1 d1)), .val (.int (own_eq4 q1 q2 t1 d1 q1 q2 t1 d1)), .val (.int (1 : Int32)), .val (.int (1 : Int32))] [(.int ex), (.int (own_eq4 f2 l2 t2 d2 q1 q2 t1 d1))])) _
    refine XS.icmpNo X183.here hx rfl (hb hby at_254) rfl (teq ((own_eq4c q1 q2 t1 d1 f2 l2 t2 d2).trans hj_ex.symm)).2 ?_
    show Steps p.tables e below (T183.setTop (mkF m 257 #[.val (.long q1), .second, .val (.long q2), .second, .val (.long q3), .second, .val (.long q4), .second, .val (.int p5), .val (.int p6), .val (.int z1), .val (.int z2), .val (.int z3), .val (.ref t1), .val (.ref t2), .val (.int d1), .val (.int d2), .val (.long f2), .second, .val (.long l2), .second, .val (.ref bx), .val (.ref by_), .val (.int ex), .val (.int (own_eq4 q1 q2 t1 d1 f2 l2 t2 d2)), .val (.int (own_eq4 f2 l2 t2 d2 q1 q2 t1 d1)), .val (.int (own_eq4 q1 q2 t1 d1 q1 q2 t1 d1)), .val (.int (1 : Int32)), .val (.int (1 : Int32))] [])) _
    refine XS.iload X183.here hx rfl (hb hby at_257) rfl ?_
    show Steps p.tables e below (T183.setTop (mkF m 259 #[.val (.long q1), .second, .val (.long q2), .second, .val (.long q3), .second, .val (.long q4), .second, .val (.int p5), .val (.int p6), .val (.int z1), .val (.int z2), .val (.int z3), .val (.ref t1), .val (.ref t2), .val (.int d1), .val (.int d2), .val (.long f2), .second, .val (.long l2), .second, .val (.ref bx), .val (.ref by_), .val (.int ex), .val (.int (own_eq4 q1 q2 t1 d1 f2 l2 t2 d2)), .val (.int (own_eq4 f2 l2 t2 d2 q1 q2 t1 d1)), .val (.int (own_eq4 q1 q2 t1 d1 q1 q2 t1 d1)), .val (.int (1 : Int32)), .val (.int (1 : Int32))] [(.int (own_eq4 q1 q2 t1 d1 q1 q2 t1 d1))])) _
    refine XS.ifNo X183.here hx rfl (hb hby at_259) rfl ((if0 _ _).trans (feq (by rw [own_eq4s]; decide)).1) ?_
    show Steps p.tables e below (T183.setTop (mkF m 262 #[.val (.long q1), .second, .val (.long q2), .second, .val (.long q3), .second, .val (.long q4), .second, .val (.int p5), .val (.int p6), .val (.int z1), .val (.int z2), .val (.int z3), .val (.ref t1), .val (.ref t2), .val (.int d1), .val (.int d2), .val (.long f2), .second, .val (.long l2), .second, .val (.ref bx), .val (.ref by_), .val (.int ex), .val (.int (own_eq4 q1 q2 t1 d1 f2 l2 t2 d2)), .val (.int (own_eq4 f2 l2 t2 d2 q1 q2 t1 d1)), .val (.int (own_eq4 q1 q2 t1 d1 q1 q2 t1 d1)), .val (.int (1 : Int32)), .val (.int (1 : Int32))] [])) _
    refine XS.iload X183.here hx rfl (hb hby at_262) rfl ?_
    show Steps p.tables e below (T183.setTop (mkF m 264 #[.val (.long q1), .second, .val (.long q2), .second, .val (.long q3), .second, .val (.long q4), .second, .val (.int p5), .val (.int p6), .val (.int z1), .val (.int z2), .val (.int z3), .val (.ref t1), .val (.ref t2), .val (.int d1), .val (.int d2), .val (.long f2), .second, .val (.long l2), .second, .val (.ref bx), .val (.ref by_), .val (.int ex), .val (.int (own_eq4 q1 q2 t1 d1 f2 l2 t2 d2)), .val (.int (own_eq4 f2 l2 t2 d2 q1 q2 t1 d1)), .val (.int (own_eq4 q1 q2 t1 d1 q1 q2 t1 d1)), .val (.int (1 : Int32)), .val (.int (1 : Int32))] [(.int (1 : Int32))])) _
    refine XS.ifNo X183.here hx rfl (hb hby at_264) rfl ((if0 _ _).trans (feq (by decide)).1) ?_
    show Steps p.tables e below (T183.setTop (mkF m 267 #[.val (.long q1), .second, .val (.long q2), .second, .val (.long q3), .second, .val (.long q4), .second, .val (.int p5), .val (.int p6), .val (.int z1), .val (.int z2), .val (.int z3), .val (.ref t1), .val (.ref t2), .val (.int d1), .val (.int d2), .val (.long f2), .second, .val (.long l2), .second, .val (.ref bx), .val (.ref by_), .val (.int ex), .val (.int (own_eq4 q1 q2 t1 d1 f2 l2 t2 d2)), .val (.int (own_eq4 f2 l2 t2 d2 q1 q2 t1 d1)), .val (.int (own_eq4 q1 q2 t1 d1 q1 q2 t1 d1)), .val (.int (1 : Int32)), .val (.int (1 : Int32))] [])) _
    refine XS.iload X183.here hx rfl (hb hby at_267) rfl ?_
    show Steps p.tables e below (T183.setTop (mkF m 269 #[.val (.long q1), .second, .val (.long q2), .second, .val (.long q3), .second, .val (.long q4), .second, .val (.int p5), .val (.int p6), .val (.int z1), .val (.int z2), .val (.int z3), .val (.ref t1), .val (.ref t2), .val (.int d1), .val (.int d2), .val (.long f2), .second, .val (.long l2), .second, .val (.ref bx), .val (.ref by_), .val (.int ex), .val (.int (own_eq4 q1 q2 t1 d1 f2 l2 t2 d2)), .val (.int (own_eq4 f2 l2 t2 d2 q1 q2 t1 d1)), .val (.int (own_eq4 q1 q2 t1 d1 q1 q2 t1 d1)), .val (.int (1 : Int32)), .val (.int (1 : Int32))] [(.int (1 : Int32))])) _
    refine XS.ifNo X183.here hx rfl (hb hby at_269) rfl ((if0 _ _).trans (feq (by decide)).1) ?_
    show Steps p.tables e below (T183.setTop (mkF m 272 #[.val (.long q1), .second, .val (.long q2), .second, .val (.long q3), .second, .val (.long q4), .second, .val (.int p5), .val (.int p6), .val (.int z1), .val (.int z2), .val (.int z3), .val (.ref t1), .val (.ref t2), .val (.int d1), .val (.int d2), .val (.long f2), .second, .val (.long l2), .second, .val (.ref bx), .val (.ref by_), .val (.int ex), .val (.int (own_eq4 q1 q2 t1 d1 f2 l2 t2 d2)), .val (.int (own_eq4 f2 l2 t2 d2 q1 q2 t1 d1)), .val (.int (own_eq4 q1 q2 t1 d1 q1 q2 t1 d1)), .val (.int (1 : Int32)), .val (.int (1 : Int32))] [])) _
    refine XS.iconst X183.here hx rfl (hb hby at_272) ?_
    show Steps p.tables e below (T183.setTop (mkF m 273 #[.val (.long q1), .second, .val (.long q2), .second, .val (.long q3), .second, .val (.long q4), .second, .val (.int p5), .val (.int p6), .val (.int z1), .val (.int z2), .val (.int z3), .val (.ref t1), .val (.ref t2), .val (.int d1), .val (.int d2), .val (.long f2), .second, .val (.long l2), .second, .val (.ref bx), .val (.ref by_), .val (.int ex), .val (.int (own_eq4 q1 q2 t1 d1 f2 l2 t2 d2)), .val (.int (own_eq4 f2 l2 t2 d2 q1 q2 t1 d1)), .val (.int (own_eq4 q1 q2 t1 d1 q1 q2 t1 d1)), .val (.int (1 : Int32)), .val (.int (1 : Int32))] [(.int (1 : Int32))])) _
    refine XS.goto X183.here hx rfl (pc0 := 273) (pc' := 277) rfl (hb hby at_273) (by decide) (by decide) ?_
    exact k_)
  obtain ⟨fs, hr, hrun, hended, hW, hsame⟩ := X183.leave (v := some (.int (1 : Int32))) (fun h => by rw [Bd.returns] at h; cases h)
  refine ⟨_, _, pre184 _ ?_, hrun, hended, _, _, rfl, ?_, ⟨_, rfl⟩, hW, hsame.mono (by decide) (by decide)⟩
  · show Steps p.tables e below (T183.setTop (mkF m 277 #[.val (.long q1), .second, .val (.long q2), .second, .val (.long q3), .second, .val (.long q4), .second, .val (.int p5), .val (.int p6), .val (.int z1), .val (.int z2), .val (.int z3), .val (.ref t1), .val (.ref t2), .val (.int d1), .val (.int d2), .val (.long f2), .second, .val (.long l2), .second, .val (.ref bx), .val (.ref by_), .val (.int ex), .val (.int (own_eq4 q1 q2 t1 d1 f2 l2 t2 d2)), .val (.int (own_eq4 f2 l2 t2 d2 q1 q2 t1 d1)), .val (.int (own_eq4 q1 q2 t1 d1 q1 q2 t1 d1)), .val (.int (1 : Int32)), .val (.int (1 : Int32))] [(.int (1 : Int32))])) _
    exact retN X183 hx (t := .boolean) Bd.returns (by simp) (hb hby at_277) hr
  · show Qrm0 Z q1 q2 q3 q4 p5 p6 ca cc aV aQ aK aR h0 n0 _ T183.heap _
    rw [e183]
    exact ⟨rfl, N183⟩
set_option maxRecDepth 65536 in
set_option maxHeartbeats 40000000 in
theorem comes_1 {Post : Tables → Env → Array Value → State → Outcome → State → Prop} (hpost : ∀ tb e args s v u, (limb_1_1.after args s (.returned v) u = true ∧ limb_1_2.after args s (.returned v) u = true ∧ True) → FrameEnd s (.returned v) u (Jvm.fieldLocs frame_1_writes args s ++ Jvm.arrayLocs frame_1_arrays args s ++ Jvm.staticLocs frame_1_statics s) 16 128 → Post tb e args s (.returned v) u) :
    ArmFor flags0 classFile x code maxLocals ret World_1 tables_1 room_1 Calls_1 rest_1 Pre_1 Post := by
  intro l hfl _ _ p e ha hc hk s m args below hf hA hF happ hP
  obtain ⟨hcalls, hrest, hpre⟩ := hP
  obtain ⟨-, -, -, hnamed, -, -, -, hat⟩ := (Spec.applies_iff hf).mp happ
  obtain ⟨hg, hn⟩ := and_e (Cond.before_iff.mp (show (Jvm.Cond.and given_1 narrow_1).before args s = true from hpre))
  obtain ⟨gg1, gg2⟩ := and_e hg
  obtain ⟨gg3, gg4⟩ := and_e gg2
  obtain ⟨gg5, gg6⟩ := and_e gg4
  obtain ⟨gg7, gg8⟩ := and_e gg6
  obtain ⟨gg9, gg10⟩ := and_e gg8
  obtain ⟨gg11, gg12⟩ := and_e gg10
  obtain ⟨w0, w1, w2, w3, w4, w5, rfl⟩ : ∃ w0 w1 w2 w3 w4 w5 : Value, args = #[w0, w1, w2, w3, w4, w5] := by
    have hs : args.size = 6 := by simpa [Cond.value, given_1] using gg1
    obtain ⟨L⟩ := args
    match L, hs with
    | [w0, w1, w2, w3, w4, w5], _ => exact ⟨w0, w1, w2, w3, w4, w5, rfl⟩
  have hw := fun d (hd : d ∈ tables_1) => atoms_spec (ws := Jvm.Cond.code x code maxLocals ret :: tables_1) hat d (List.mem_cons_of_mem _ hd)
  have hfit : Fit s := fun {y c} hc i hi => by
    obtain ⟨ha, rfl⟩ := Array.getElem?_eq_some_iff.mp hc
    have q := List.all_eq_true.mp ((Array.all_eq_true_iff_forall_mem.mp hF) _ (Array.getElem_mem ha)) i (List.mem_range.mpr hi)
    simpa [Array.getElem?_eq_getElem hi] using q
  obtain ⟨i0, ei0⟩ := isL_v gg3
  obtain rfl : w0 = (.long i0) := Option.some.inj ei0
  obtain ⟨i1, ei1⟩ := isL_v gg5
  obtain rfl : w1 = (.long i1) := Option.some.inj ei1
  obtain ⟨i2, ei2⟩ := isL_v gg7
  obtain rfl : w2 = (.long i2) := Option.some.inj ei2
  obtain ⟨i3, ei3⟩ := isL_v gg9
  obtain rfl : w3 = (.long i3) := Option.some.inj ei3
  obtain ⟨i4, ei4⟩ := is_v gg11
  obtain rfl : w4 = (.int i4) := Option.some.inj ei4
  obtain ⟨i5, ei5⟩ := is_v gg12
  obtain rfl : w5 = (.int i5) := Option.some.inj ei5
  obtain ⟨hsets, hown0⟩ := atoms_of _ (rest_1_c_eq ▸ (show rest_1_c.before _ s = true from hrest))
  obtain ⟨S_high, ca, cc, S_cache, B_c⟩ := own_cache (hsets _ (List.mem_of_getElem? (i := 1) rfl)) (hsets _ (List.mem_of_getElem? (i := 2) rfl)) (hsets _ (List.mem_of_getElem? (i := 3) rfl)) (hsets _ (List.mem_of_getElem? (i := 4) rfl)) (hsets _ (List.mem_of_getElem? (i := 6) rfl)) (hsets _ (List.mem_of_getElem? (i := 7) rfl)) (hw _ (List.mem_of_getElem? (i := 36) rfl))
  obtain ⟨nn1, nn2⟩ := and_e hn
  obtain ⟨nn3, nn4⟩ := and_e nn2
  obtain ⟨nn5, nn6⟩ := and_e nn4
  obtain ⟨nn7, nn8⟩ := and_e nn6
  obtain ⟨nn9, nn10⟩ := and_e nn8
  obtain ⟨nn11, nn12⟩ := and_e nn10
  obtain ⟨nn13, nn14⟩ := and_e nn12
  obtain ⟨aV, evV, E_V, S_V⟩ := own_static nn1 (hw _ (List.mem_of_getElem? (i := 5) rfl)) (hw _ (List.mem_of_getElem? (i := 6) rfl))
  obtain ⟨aQ, evQ, E_Q, S_Q⟩ := own_static nn3 (hw _ (List.mem_of_getElem? (i := 5) rfl)) (hw _ (List.mem_of_getElem? (i := 42) rfl))
  obtain ⟨aR, evR, E_R, S_R⟩ := own_static nn5 (hw _ (List.mem_of_getElem? (i := 5) rfl)) (hw _ (List.mem_of_getElem? (i := 44) rfl))
  obtain ⟨aK, evK, E_K, S_K⟩ := own_static nn7 (hw _ (List.mem_of_getElem? (i := 5) rfl)) (hw _ (List.mem_of_getElem? (i := 46) rfl))
  have F_Q := own_ord evQ nn9
  have F_R := own_ord evR nn11
  have F_V := own_ord evV nn13
  have F_K := own_ord evK nn14
  obtain ⟨n, o, h1, h2, h3, _, L, rfl, ⟨rfl, N⟩, hq⟩ := rm0 l s _ hw tables_1 i0 i1 i2 i3 i4 i5 ca cc aV aQ aK aR s.heap s.heap.size (Nat.le_refl _) (Old.start s) S_high S_cache B_c S_V S_Q S_K S_R p e ha hc hk s m _ below hf ((Spec.applies_iff_loose hf).mp happ).1 ⟨rfl, State.Warmed39.refl s, rfl⟩ trivial
  refine ⟨n, _, h1, h2, h3, hpost _ _ _ _ _ _ ⟨Cond.after_iff.mpr rfl, Cond.after_iff.mpr (eq_i res_at (Term.int_eval (1)) rfl), trivial⟩ ⟨hq.1, hq.2.1, (hq.2.2.sift fun y hy => Or.inr (N y hy)).mono (by decide) (by decide)⟩⟩
theorem main_1_1 : Claimed_1_1 := comes_1 fun _ _ _ _ _ _ h hF => ⟨h.1, hF⟩
theorem main_1_2 : Claimed_1_2 := comes_1 fun _ _ _ _ _ _ h hF => ⟨h.2.1, hF⟩
end Jvm.Pilot.@@N@@
namespace Jvm.Pilot.@@N@@
open Jvm Jvm.ClassFile Sem Op Lib Jvm.Free Jvm.Stand Jvm.Pilot.@@N@@.Jvm.D
/-! MADE BY PROGRAM (witnessworld.py) out of the Statement's table words and the real class files: 18 classes; the members and pool entries that the words name. The judged class is class 1, her method 2. -/
namespace start1
open Jvm.ClassFile
def u (s : String) : CpInfo := .utf8 (stringToUtf16 s)
/-- a pool by its gaps: so many unusable entries, then the entry; so many at the end -/
def gap : Nat → List CpInfo → List CpInfo
  | 0, r => r
  | n + 1, r => .unusable :: gap n r
def poolList (es : List (Nat × CpInfo)) (last : Nat) : List CpInfo := es.foldr (fun e r => gap e.1 (e.2 :: r)) (gap last [])
def pool (es : List (Nat × CpInfo)) (last : Nat) : Array CpInfo := ⟨poolList es last⟩
def fileOf (pool : Array CpInfo) (this : Nat) (attrs : Array Attribute := #[]) (ms : Array MethodInfo := #[]) (fl : Nat := 33) (sup : Nat := 0) (ifs : Array Nat := #[]) (fds : Array FieldInfo := #[]) : ClassFile where
  minorVersion := 0
  majorVersion := 65
  constantPool := pool
  accessFlags := fl
  thisClass := this
  superClass := sup
  interfaces := ifs
  fields := fds
  methods := ms
  attributes := attrs
def plain (name : String) (sup : Option ClassId) : Class where
  name := name
  kind := .ordinary
  loader := none
  accessFlags := 33
  super := sup
  interfaces := #[]
  cf := none
  fields := #[]
  methods := #[]
  instanceTypes := #[]
  staticTypes := #[]
  resolved := #[]
  callSites := []
  init := .initialized
  statics := none
  mirror := none

def pool0 : Array CpInfo := pool [(5, u "<init>"), (0, u "()V"), (1, .class_ 10), (1, u "java/lang/Object")] 113

def k0c0 : Code := { maxStack := 0, maxLocals := 1, code := object_method_1_code, exceptionTable := #[], attributes := #[] }
def k0m0 : Method := { name := "<init>", desc := "()V", sig := { parameters := [], returnType := none }, accessFlags := 1, code := some k0c0 }
/-- java/lang/Object -/
def k0 : Class := { plain "java/lang/Object" none with
  accessFlags := 33
  interfaces := #[]
  cf := some (fileOf pool0 8 #[] #[{ accessFlags := 1, nameIndex := 5, descriptorIndex := 6, attributes := #[] }] 33 0 #[] #[])
  fields := #[]
  methods := #[k0m0]
  instanceTypes := #[]
  staticTypes := #[]
  resolved := Array.replicate 124 none
  statics := none }

def pool1 : Array CpInfo := pool [(2, .class_ 4), (1, u "java/lang/Object"), (0, u "<init>"), (0, u "()V"), (0, .fieldref 8 9), (0, .class_ 10), (0, .nameAndType 11 12), (0, u "com/example/termite/termite/broker/RecordState"), (0, u "AVAILABLE"), (0, u "Lcom/example/termite/termite/broker/RecordState;"), (0, .fieldref 8 14), (0, .nameAndType 15 12), (0, u "ACQUIRED"), (0, .fieldref 8 17), (0, .nameAndType 18 12), (0, u "ACKNOWLEDGED"), (0, .fieldref 8 20), (0, .nameAndType 21 12), (0, u "ARCHIVED"), (0, .methodref 23 24), (0, .class_ 25), (0, .nameAndType 26 27), (0, u "com/example/termite/termite/broker/RangeEqualsPinLaw"), (0, u "pick"), (0, u "(I)Lcom/example/termite/termite/broker/RecordState;"), (0, .class_ 29), (0, u "com/example/termite/termite/broker/ShareState$Range"), (0, .methodref 28 31), (0, .nameAndType 5 32), (0, u "(JJLcom/example/termite/termite/broker/RecordState;S)V"), (0, .methodref 28 34), (0, .nameAndType 35 36), (0, u "equals"), (0, u "(Ljava/lang/Object;)Z"), (0, .methodref 38 39), (0, .class_ 40), (0, .nameAndType 41 42), (0, u "java/lang/Integer"), (0, u "valueOf"), (0, u "(I)Ljava/lang/Integer;"), (3, u "law"), (0, u "(JJJJII)Z")] 6

def k1m0 : Method := { name := "<init>", desc := "()V", sig := { parameters := [], returnType := none }, accessFlags := 1, code := none }
def k1c1 : Code := { maxStack := 2, maxLocals := 1, code := method_2_code, exceptionTable := #[], attributes := #[] }
def k1m1 : Method := { name := "pick", desc := "(I)Lcom/example/termite/termite/broker/RecordState;", sig := { parameters := [.int], returnType := some (.object "com/example/termite/termite/broker/RecordState") }, accessFlags := 10, code := some k1c1 }
def k1c2 : Code := { maxStack := 8, maxLocals := 29, code := code, exceptionTable := #[], attributes := #[] }
def k1m2 : Method := { name := "law", desc := "(JJJJII)Z", sig := { parameters := [.long, .long, .long, .long, .int, .int], returnType := some .boolean }, accessFlags := 9, code := some k1c2 }
/-- com/example/termite/termite/broker/RangeEqualsPinLaw -/
def k1 : Class := { plain "com/example/termite/termite/broker/RangeEqualsPinLaw" (some 0) with
  accessFlags := 49
  interfaces := #[]
  cf := some (fileOf pool1 23 #[] #[{ accessFlags := 1, nameIndex := 5, descriptorIndex := 6, attributes := #[] }, { accessFlags := 10, nameIndex := 26, descriptorIndex := 27, attributes := #[] }, { accessFlags := 9, nameIndex := 46, descriptorIndex := 47, attributes := #[] }] 49 2 #[] #[])
  fields := #[]
  methods := #[k1m0, k1m1, k1m2]
  instanceTypes := #[]
  staticTypes := #[]
  resolved := Array.replicate 54 none
  statics := none }

def pool2 : Array CpInfo := pool [(1, .class_ 2), (0, u "java/lang/constant/Constable"), (0, .class_ 4), (0, u "java/lang/Object")] 6

/-- java/lang/constant/Constable -/
def k2 : Class := { plain "java/lang/constant/Constable" (some 0) with
  accessFlags := 1537
  interfaces := #[]
  cf := some (fileOf pool2 1 #[] #[] 1537 3 #[] #[])
  fields := #[]
  methods := #[]
  instanceTypes := #[]
  staticTypes := #[]
  resolved := Array.replicate 11 none
  statics := none }

def pool3 : Array CpInfo := pool [(1, .class_ 2), (0, u "java/lang/Comparable"), (0, .class_ 4), (0, u "java/lang/Object")] 7

/-- java/lang/Comparable -/
def k3 : Class := { plain "java/lang/Comparable" (some 0) with
  accessFlags := 1537
  interfaces := #[]
  cf := some (fileOf pool3 1 #[] #[] 1537 3 #[] #[])
  fields := #[]
  methods := #[]
  instanceTypes := #[]
  staticTypes := #[]
  resolved := Array.replicate 12 none
  statics := none }

def pool4 : Array CpInfo := pool [(1, .class_ 2), (0, u "java/io/Serializable"), (0, .class_ 4), (0, u "java/lang/Object")] 2

/-- java/io/Serializable -/
def k4 : Class := { plain "java/io/Serializable" (some 0) with
  accessFlags := 1537
  interfaces := #[]
  cf := some (fileOf pool4 1 #[] #[] 1537 3 #[] #[])
  fields := #[]
  methods := #[]
  instanceTypes := #[]
  staticTypes := #[]
  resolved := Array.replicate 7 none
  statics := none }

def pool5 : Array CpInfo := pool [(2, .class_ 4), (1, u "java/lang/Enum"), (0, u "name"), (0, u "Ljava/lang/String;"), (2, u "ordinal"), (0, u "I"), (1, .class_ 14), (1, u "java/lang/Object"), (4, u "hash"), (86, .class_ 108), (1, u "java/lang/Enum$EnumDesc"), (2, .class_ 112), (0, u "java/lang/constant/Constable"), (0, .class_ 114), (0, u "java/lang/Comparable"), (0, .class_ 116), (0, u "java/io/Serializable")] 87

/-- java/lang/Enum -/
def k5 : Class := { plain "java/lang/Enum" (some 0) with
  accessFlags := 1057
  interfaces := #[2, 3, 4]
  cf := some (fileOf pool5 2 #[.nestMembers #[106]] #[] 1057 12 #[111, 113, 115] #[{ accessFlags := 18, nameIndex := 5, descriptorIndex := 6, attributes := #[] }, { accessFlags := 18, nameIndex := 9, descriptorIndex := 10, attributes := #[] }, { accessFlags := 2, nameIndex := 19, descriptorIndex := 10, attributes := #[] }])
  fields := #[{ name := "name", type := (.object "java/lang/String"), accessFlags := 18, slot := 0, constantValue := 0 }, { name := "ordinal", type := .int, accessFlags := 18, slot := 1, constantValue := 0 }, { name := "hash", type := .int, accessFlags := 2, slot := 2, constantValue := 0 }]
  methods := #[]
  instanceTypes := #[(.object "java/lang/String"), .int, .int]
  staticTypes := #[]
  resolved := Array.replicate 204 none
  statics := none }

def pool6 : Array CpInfo := pool [(1, .class_ 2), (0, u "com/example/termite/termite/broker/RecordState"), (2, u "AVAILABLE"), (0, u "Lcom/example/termite/termite/broker/RecordState;"), (2, u "ACQUIRED"), (2, u "ACKNOWLEDGED"), (2, u "ARCHIVED"), (2, u "$VALUES"), (0, u "[Lcom/example/termite/termite/broker/RecordState;"), (6, .class_ 28), (1, u "java/lang/Enum"), (8, u "code"), (0, u "B")] 31

/-- com/example/termite/termite/broker/RecordState -/
def k6 : Class := { plain "com/example/termite/termite/broker/RecordState" (some 5) with
  accessFlags := 16432
  interfaces := #[]
  cf := some (fileOf pool6 1 #[] #[] 16432 26 #[] #[{ accessFlags := 16409, nameIndex := 5, descriptorIndex := 6, attributes := #[] }, { accessFlags := 16409, nameIndex := 9, descriptorIndex := 6, attributes := #[] }, { accessFlags := 16409, nameIndex := 12, descriptorIndex := 6, attributes := #[] }, { accessFlags := 16409, nameIndex := 15, descriptorIndex := 6, attributes := #[] }, { accessFlags := 18, nameIndex := 37, descriptorIndex := 38, attributes := #[] }, { accessFlags := 4122, nameIndex := 18, descriptorIndex := 19, attributes := #[] }])
  fields := #[{ name := "AVAILABLE", type := (.object "com/example/termite/termite/broker/RecordState"), accessFlags := 16409, slot := 0, constantValue := 0 }, { name := "ACQUIRED", type := (.object "com/example/termite/termite/broker/RecordState"), accessFlags := 16409, slot := 1, constantValue := 0 }, { name := "ACKNOWLEDGED", type := (.object "com/example/termite/termite/broker/RecordState"), accessFlags := 16409, slot := 2, constantValue := 0 }, { name := "ARCHIVED", type := (.object "com/example/termite/termite/broker/RecordState"), accessFlags := 16409, slot := 3, constantValue := 0 }, { name := "code", type := .byte, accessFlags := 18, slot := 3, constantValue := 0 }, { name := "$VALUES", type := (.array (.object "com/example/termite/termite/broker/RecordState")), accessFlags := 4122, slot := 4, constantValue := 0 }]
  methods := #[]
  instanceTypes := #[(.object "java/lang/String"), .int, .int, .byte]
  staticTypes := #[(.object "com/example/termite/termite/broker/RecordState"), (.object "com/example/termite/termite/broker/RecordState"), (.object "com/example/termite/termite/broker/RecordState"), (.object "com/example/termite/termite/broker/RecordState"), (.array (.object "com/example/termite/termite/broker/RecordState"))]
  resolved := Array.replicate 70 none
  statics := some 0 }

def pool7 : Array CpInfo := pool [(1, .methodref 2 3), (0, .class_ 4), (0, .nameAndType 5 6), (0, u "java/lang/Object"), (0, u "<init>"), (0, u "()V"), (0, .fieldref 8 9), (0, .class_ 10), (0, .nameAndType 11 12), (0, u "com/example/termite/termite/broker/ShareState$Range"), (0, u "firstOffset"), (0, u "J"), (0, .fieldref 8 14), (0, .nameAndType 15 12), (0, u "lastOffset"), (0, .fieldref 8 17), (0, .nameAndType 18 19), (0, u "state"), (0, u "Lcom/example/termite/termite/broker/RecordState;"), (0, .fieldref 8 21), (0, .nameAndType 22 23), (0, u "deliveryCount"), (0, u "S"), (26, u "(JJLcom/example/termite/termite/broker/RecordState;S)V"), (5, u "equals"), (0, u "(Ljava/lang/Object;)Z"), (8, .class_ 67), (0, u "com/example/termite/termite/broker/ShareState")] 16

def k7c0 : Code := { maxStack := 3, maxLocals := 7, code := prog_30_method_1_code, exceptionTable := #[], attributes := #[] }
def k7m0 : Method := { name := "<init>", desc := "(JJLcom/example/termite/termite/broker/RecordState;S)V", sig := { parameters := [.long, .long, (.object "com/example/termite/termite/broker/RecordState"), .short], returnType := none }, accessFlags := 0, code := some k7c0 }
def k7c1 : Code := { maxStack := 4, maxLocals := 2, code := prog_30_method_6_code, exceptionTable := #[], attributes := #[] }
def k7m1 : Method := { name := "equals", desc := "(Ljava/lang/Object;)Z", sig := { parameters := [(.object "java/lang/Object")], returnType := some .boolean }, accessFlags := 1, code := some k7c1 }
/-- com/example/termite/termite/broker/ShareState$Range -/
def k7 : Class := { plain "com/example/termite/termite/broker/ShareState$Range" (some 0) with
  accessFlags := 32
  interfaces := #[]
  cf := some (fileOf pool7 8 #[.nestHost 66] #[{ accessFlags := 0, nameIndex := 5, descriptorIndex := 50, attributes := #[] }, { accessFlags := 1, nameIndex := 56, descriptorIndex := 57, attributes := #[] }] 32 2 #[] #[{ accessFlags := 18, nameIndex := 11, descriptorIndex := 12, attributes := #[] }, { accessFlags := 18, nameIndex := 15, descriptorIndex := 12, attributes := #[] }, { accessFlags := 18, nameIndex := 18, descriptorIndex := 19, attributes := #[] }, { accessFlags := 18, nameIndex := 22, descriptorIndex := 23, attributes := #[] }])
  fields := #[{ name := "firstOffset", type := .long, accessFlags := 18, slot := 0, constantValue := 0 }, { name := "lastOffset", type := .long, accessFlags := 18, slot := 1, constantValue := 0 }, { name := "state", type := (.object "com/example/termite/termite/broker/RecordState"), accessFlags := 18, slot := 2, constantValue := 0 }, { name := "deliveryCount", type := .short, accessFlags := 18, slot := 3, constantValue := 0 }]
  methods := #[k7m0, k7m1]
  instanceTypes := #[.long, .long, (.object "com/example/termite/termite/broker/RecordState"), .short]
  staticTypes := #[]
  resolved := Array.replicate 84 none
  statics := none }

def pool8 : Array CpInfo := pool [(1, .methodref 2 3), (0, .class_ 4), (0, .nameAndType 5 6), (0, u "java/lang/Object"), (0, u "<init>"), (0, u "()V"), (1, .class_ 10), (1, u "java/lang/Number"), (2, .class_ 14), (0, u "java/io/Serializable"), (0, u "serialVersionUID"), (0, u "J")] 20

def k8c0 : Code := { maxStack := 1, maxLocals := 1, code := jdk_18_method_1_code, exceptionTable := #[], attributes := #[] }
def k8m0 : Method := { name := "<init>", desc := "()V", sig := { parameters := [], returnType := none }, accessFlags := 1, code := some k8c0 }
/-- java/lang/Number -/
def k8 : Class := { plain "java/lang/Number" (some 0) with
  accessFlags := 1057
  interfaces := #[4]
  cf := some (fileOf pool8 8 #[] #[{ accessFlags := 1, nameIndex := 5, descriptorIndex := 6, attributes := #[] }] 1057 2 #[13] #[{ accessFlags := 26, nameIndex := 15, descriptorIndex := 16, attributes := #[] }])
  fields := #[{ name := "serialVersionUID", type := .long, accessFlags := 26, slot := 0, constantValue := 0 }]
  methods := #[k8m0]
  instanceTypes := #[]
  staticTypes := #[.long]
  resolved := Array.replicate 37 none
  statics := none }

def pool9 : Array CpInfo := pool [(1, .class_ 2), (0, u "java/lang/constant/ConstantDesc"), (0, .class_ 4), (0, u "java/lang/Object")] 32

/-- java/lang/constant/ConstantDesc -/
def k9 : Class := { plain "java/lang/constant/ConstantDesc" (some 0) with
  accessFlags := 1537
  interfaces := #[]
  cf := some (fileOf pool9 1 #[] #[] 1537 3 #[] #[])
  fields := #[]
  methods := #[]
  instanceTypes := #[]
  staticTypes := #[]
  resolved := Array.replicate 37 none
  statics := none }

def pool10 : Array CpInfo := pool [(1, .class_ 2), (0, u "java/lang/Integer"), (16, u "digits"), (0, u "[C"), (46, u "<init>"), (17, u "DigitOnes"), (0, u "[B"), (2, u "DigitTens"), (10, .nameAndType 67 101), (0, u "()V"), (85, u "valueOf"), (0, u "(I)Ljava/lang/Integer;"), (0, .class_ 190), (0, u "java/lang/Integer$IntegerCache"), (0, .fieldref 189 192), (0, .nameAndType 193 194), (0, u "high"), (0, u "I"), (0, .fieldref 189 196), (0, .nameAndType 197 198), (0, u "cache"), (0, u "[Ljava/lang/Integer;"), (0, .methodref 1 200), (0, .nameAndType 67 201), (0, u "(I)V"), (0, .methodref 203 100), (0, .class_ 204), (0, u "java/lang/Number"), (0, .fieldref 1 206), (0, .nameAndType 207 194), (0, u "value"), (94, u "TYPE"), (0, u "Ljava/lang/Class;"), (0, .class_ 305), (0, u "java/lang/Comparable"), (0, .class_ 307), (0, u "java/lang/constant/Constable"), (0, .class_ 309), (0, u "java/lang/constant/ConstantDesc"), (0, u "MIN_VALUE"), (1, u "MAX_VALUE"), (3, u "SIZE"), (1, u "BYTES"), (1, u "serialVersionUID"), (0, u "J")] 131

def k10c0 : Code := { maxStack := 3, maxLocals := 1, code := jdk_33_method_22_code, exceptionTable := #[], attributes := #[] }
def k10m0 : Method := { name := "valueOf", desc := "(I)Ljava/lang/Integer;", sig := { parameters := [.int], returnType := some (.object "java/lang/Integer") }, accessFlags := 9, code := some k10c0 }
def k10c1 : Code := { maxStack := 2, maxLocals := 2, code := jdk_33_method_23_code, exceptionTable := #[], attributes := #[] }
def k10m1 : Method := { name := "<init>", desc := "(I)V", sig := { parameters := [.int], returnType := none }, accessFlags := 1, code := some k10c1 }
/-- java/lang/Integer -/
def k10 : Class := { plain "java/lang/Integer" (some 8) with
  accessFlags := 49
  interfaces := #[3, 2, 9]
  cf := some (fileOf pool10 1 #[.nestMembers #[189]] #[{ accessFlags := 9, nameIndex := 187, descriptorIndex := 188, attributes := #[] }, { accessFlags := 1, nameIndex := 67, descriptorIndex := 201, attributes := #[] }] 49 203 #[304, 306, 308] #[{ accessFlags := 25, nameIndex := 310, descriptorIndex := 194, attributes := #[] }, { accessFlags := 25, nameIndex := 312, descriptorIndex := 194, attributes := #[] }, { accessFlags := 25, nameIndex := 302, descriptorIndex := 303, attributes := #[] }, { accessFlags := 24, nameIndex := 19, descriptorIndex := 20, attributes := #[] }, { accessFlags := 24, nameIndex := 89, descriptorIndex := 86, attributes := #[] }, { accessFlags := 24, nameIndex := 85, descriptorIndex := 86, attributes := #[] }, { accessFlags := 18, nameIndex := 207, descriptorIndex := 194, attributes := #[] }, { accessFlags := 25, nameIndex := 316, descriptorIndex := 194, attributes := #[] }, { accessFlags := 25, nameIndex := 318, descriptorIndex := 194, attributes := #[] }, { accessFlags := 26, nameIndex := 320, descriptorIndex := 321, attributes := #[] }])
  fields := #[{ name := "MIN_VALUE", type := .int, accessFlags := 25, slot := 0, constantValue := 0 }, { name := "MAX_VALUE", type := .int, accessFlags := 25, slot := 1, constantValue := 0 }, { name := "TYPE", type := (.object "java/lang/Class"), accessFlags := 25, slot := 2, constantValue := 0 }, { name := "digits", type := (.array .char), accessFlags := 24, slot := 3, constantValue := 0 }, { name := "DigitTens", type := (.array .byte), accessFlags := 24, slot := 4, constantValue := 0 }, { name := "DigitOnes", type := (.array .byte), accessFlags := 24, slot := 5, constantValue := 0 }, { name := "value", type := .int, accessFlags := 18, slot := 0, constantValue := 0 }, { name := "SIZE", type := .int, accessFlags := 25, slot := 6, constantValue := 0 }, { name := "BYTES", type := .int, accessFlags := 25, slot := 7, constantValue := 0 }, { name := "serialVersionUID", type := .long, accessFlags := 26, slot := 8, constantValue := 0 }]
  methods := #[k10m0, k10m1]
  instanceTypes := #[.int]
  staticTypes := #[.int, .int, (.object "java/lang/Class"), (.array .char), (.array .byte), (.array .byte), .int, .int, .long]
  resolved := Array.replicate 453 none
  statics := none }

def pool11 : Array CpInfo := pool [(2, .class_ 4), (1, u "java/lang/Object"), (0, u "<init>"), (0, u "()V"), (0, .class_ 8), (0, u "java/lang/Integer"), (7, .class_ 18), (1, u "java/lang/Integer$IntegerCache"), (0, u "$assertionsDisabled"), (0, u "Z"), (26, u "high"), (0, u "I"), (8, u "archivedCache"), (0, u "[Ljava/lang/Integer;"), (12, u "cache"), (0, u "low")] 27

def k11m0 : Method := { name := "<init>", desc := "()V", sig := { parameters := [], returnType := none }, accessFlags := 2, code := none }
/-- java/lang/Integer$IntegerCache -/
def k11 : Class := { plain "java/lang/Integer$IntegerCache" (some 0) with
  accessFlags := 48
  interfaces := #[]
  cf := some (fileOf pool11 16 #[.nestHost 7] #[{ accessFlags := 2, nameIndex := 5, descriptorIndex := 6, attributes := #[] }] 48 2 #[] #[{ accessFlags := 24, nameIndex := 72, descriptorIndex := 48, attributes := #[] }, { accessFlags := 24, nameIndex := 47, descriptorIndex := 48, attributes := #[] }, { accessFlags := 24, nameIndex := 71, descriptorIndex := 58, attributes := #[] }, { accessFlags := 8, nameIndex := 57, descriptorIndex := 58, attributes := #[] }, { accessFlags := 4120, nameIndex := 19, descriptorIndex := 20, attributes := #[] }])
  fields := #[{ name := "low", type := .int, accessFlags := 24, slot := 0, constantValue := 0 }, { name := "high", type := .int, accessFlags := 24, slot := 1, constantValue := 0 }, { name := "cache", type := (.array (.object "java/lang/Integer")), accessFlags := 24, slot := 2, constantValue := 0 }, { name := "archivedCache", type := (.array (.object "java/lang/Integer")), accessFlags := 8, slot := 3, constantValue := 0 }, { name := "$assertionsDisabled", type := .boolean, accessFlags := 4120, slot := 4, constantValue := 0 }]
  methods := #[k11m0]
  instanceTypes := #[]
  staticTypes := #[.int, .int, (.array (.object "java/lang/Integer")), (.array (.object "java/lang/Integer")), .boolean]
  resolved := Array.replicate 100 none
  statics := some 1 }

def pool12 : Array CpInfo := pool [(1, u "java/lang/Cloneable"), (0, .class_ 1), (0, u "java/lang/Object"), (0, .class_ 3)] 3

/-- java/lang/Cloneable -/
def k12 : Class := { plain "java/lang/Cloneable" (some 0) with
  accessFlags := 1537
  interfaces := #[]
  cf := some (fileOf pool12 2 #[] #[] 1537 4 #[] #[])
  fields := #[]
  methods := #[]
  instanceTypes := #[]
  staticTypes := #[]
  resolved := Array.replicate 8 none
  statics := none }

/-- the primitive byte -/
def k13 : Class := { plain "byte" none with kind := .primitive 'B', accessFlags := 0x411 }
/-- [B -/
def k14 : Class := { plain "[B" (some 0) with kind := .array 13 .byte, interfaces := #[12, 4], accessFlags := 1041 }

/-- the primitive int -/
def k15 : Class := { plain "int" none with kind := .primitive 'I', accessFlags := 0x411 }
/-- [I -/
def k16 : Class := { plain "[I" (some 0) with kind := .array 15 .int, interfaces := #[12, 4], accessFlags := 1041 }

/-- [Ljava/lang/Integer; -/
def k17 : Class := { plain "[Ljava/lang/Integer;" (some 0) with kind := .array 10 (.object "java/lang/Integer"), interfaces := #[12, 4], accessFlags := 1041 }

def heap : Heap := #[{ cls := 6, slots := #[.ref 259, .ref 260, .ref 261, .ref 262, .null], vm := .statics 6 },
  { cls := 11, slots := #[.int 0, .int 127, .ref 2, .null, .int 0], vm := .statics 11 },
  { cls := 17, slots := #[.ref 3, .ref 4, .ref 5, .ref 6, .ref 7, .ref 8, .ref 9, .ref 10, .ref 11, .ref 12, .ref 13, .ref 14, .ref 15, .ref 16, .ref 17, .ref 18, .ref 19, .ref 20, .ref 21, .ref 22, .ref 23, .ref 24, .ref 25, .ref 26, .ref 27, .ref 28, .ref 29, .ref 30, .ref 31, .ref 32, .ref 33, .ref 34, .ref 35, .ref 36, .ref 37, .ref 38, .ref 39, .ref 40, .ref 41, .ref 42, .ref 43, .ref 44, .ref 45, .ref 46, .ref 47, .ref 48, .ref 49, .ref 50, .ref 51, .ref 52, .ref 53, .ref 54, .ref 55, .ref 56, .ref 57, .ref 58, .ref 59, .ref 60, .ref 61, .ref 62, .ref 63, .ref 64, .ref 65, .ref 66, .ref 67, .ref 68, .ref 69, .ref 70, .ref 71, .ref 72, .ref 73, .ref 74, .ref 75, .ref 76, .ref 77, .ref 78, .ref 79, .ref 80, .ref 81, .ref 82, .ref 83, .ref 84, .ref 85, .ref 86, .ref 87, .ref 88, .ref 89, .ref 90, .ref 91, .ref 92, .ref 93, .ref 94, .ref 95, .ref 96, .ref 97, .ref 98, .ref 99, .ref 100, .ref 101, .ref 102, .ref 103, .ref 104, .ref 105, .ref 106, .ref 107, .ref 108, .ref 109, .ref 110, .ref 111, .ref 112, .ref 113, .ref 114, .ref 115, .ref 116, .ref 117, .ref 118, .ref 119, .ref 120, .ref 121, .ref 122, .ref 123, .ref 124, .ref 125, .ref 126, .ref 127, .ref 128, .ref 129, .ref 130, .ref 131, .ref 132, .ref 133, .ref 134, .ref 135, .ref 136, .ref 137, .ref 138, .ref 139, .ref 140, .ref 141, .ref 142, .ref 143, .ref 144, .ref 145, .ref 146, .ref 147, .ref 148, .ref 149, .ref 150, .ref 151, .ref 152, .ref 153, .ref 154, .ref 155, .ref 156, .ref 157, .ref 158, .ref 159, .ref 160, .ref 161, .ref 162, .ref 163, .ref 164, .ref 165, .ref 166, .ref 167, .ref 168, .ref 169, .ref 170, .ref 171, .ref 172, .ref 173, .ref 174, .ref 175, .ref 176, .ref 177, .ref 178, .ref 179, .ref 180, .ref 181, .ref 182, .ref 183, .ref 184, .ref 185, .ref 186, .ref 187, .ref 188, .ref 189, .ref 190, .ref 191, .ref 192, .ref 193, .ref 194, .ref 195, .ref 196, .ref 197, .ref 198, .ref 199, .ref 200, .ref 201, .ref 202, .ref 203, .ref 204, .ref 205, .ref 206, .ref 207, .ref 208, .ref 209, .ref 210, .ref 211, .ref 212, .ref 213, .ref 214, .ref 215, .ref 216, .ref 217, .ref 218, .ref 219, .ref 220, .ref 221, .ref 222, .ref 223, .ref 224, .ref 225, .ref 226, .ref 227, .ref 228, .ref 229, .ref 230, .ref 231, .ref 232, .ref 233, .ref 234, .ref 235, .ref 236, .ref 237, .ref 238, .ref 239, .ref 240, .ref 241, .ref 242, .ref 243, .ref 244, .ref 245, .ref 246, .ref 247, .ref 248, .ref 249, .ref 250, .ref 251, .ref 252, .ref 253, .ref 254, .ref 255, .ref 256, .ref 257, .ref 258], vm := .none },
  { cls := 10, slots := #[.int (-128)], vm := .none },
  { cls := 10, slots := #[.int (-127)], vm := .none },
  { cls := 10, slots := #[.int (-126)], vm := .none },
  { cls := 10, slots := #[.int (-125)], vm := .none },
  { cls := 10, slots := #[.int (-124)], vm := .none },
  { cls := 10, slots := #[.int (-123)], vm := .none },
  { cls := 10, slots := #[.int (-122)], vm := .none },
  { cls := 10, slots := #[.int (-121)], vm := .none },
  { cls := 10, slots := #[.int (-120)], vm := .none },
  { cls := 10, slots := #[.int (-119)], vm := .none },
  { cls := 10, slots := #[.int (-118)], vm := .none },
  { cls := 10, slots := #[.int (-117)], vm := .none },
  { cls := 10, slots := #[.int (-116)], vm := .none },
  { cls := 10, slots := #[.int (-115)], vm := .none },
  { cls := 10, slots := #[.int (-114)], vm := .none },
  { cls := 10, slots := #[.int (-113)], vm := .none },
  { cls := 10, slots := #[.int (-112)], vm := .none },
  { cls := 10, slots := #[.int (-111)], vm := .none },
  { cls := 10, slots := #[.int (-110)], vm := .none },
  { cls := 10, slots := #[.int (-109)], vm := .none },
  { cls := 10, slots := #[.int (-108)], vm := .none },
  { cls := 10, slots := #[.int (-107)], vm := .none },
  { cls := 10, slots := #[.int (-106)], vm := .none },
  { cls := 10, slots := #[.int (-105)], vm := .none },
  { cls := 10, slots := #[.int (-104)], vm := .none },
  { cls := 10, slots := #[.int (-103)], vm := .none },
  { cls := 10, slots := #[.int (-102)], vm := .none },
  { cls := 10, slots := #[.int (-101)], vm := .none },
  { cls := 10, slots := #[.int (-100)], vm := .none },
  { cls := 10, slots := #[.int (-99)], vm := .none },
  { cls := 10, slots := #[.int (-98)], vm := .none },
  { cls := 10, slots := #[.int (-97)], vm := .none },
  { cls := 10, slots := #[.int (-96)], vm := .none },
  { cls := 10, slots := #[.int (-95)], vm := .none },
  { cls := 10, slots := #[.int (-94)], vm := .none },
  { cls := 10, slots := #[.int (-93)], vm := .none },
  { cls := 10, slots := #[.int (-92)], vm := .none },
  { cls := 10, slots := #[.int (-91)], vm := .none },
  { cls := 10, slots := #[.int (-90)], vm := .none },
  { cls := 10, slots := #[.int (-89)], vm := .none },
  { cls := 10, slots := #[.int (-88)], vm := .none },
  { cls := 10, slots := #[.int (-87)], vm := .none },
  { cls := 10, slots := #[.int (-86)], vm := .none },
  { cls := 10, slots := #[.int (-85)], vm := .none },
  { cls := 10, slots := #[.int (-84)], vm := .none },
  { cls := 10, slots := #[.int (-83)], vm := .none },
  { cls := 10, slots := #[.int (-82)], vm := .none },
  { cls := 10, slots := #[.int (-81)], vm := .none },
  { cls := 10, slots := #[.int (-80)], vm := .none },
  { cls := 10, slots := #[.int (-79)], vm := .none },
  { cls := 10, slots := #[.int (-78)], vm := .none },
  { cls := 10, slots := #[.int (-77)], vm := .none },
  { cls := 10, slots := #[.int (-76)], vm := .none },
  { cls := 10, slots := #[.int (-75)], vm := .none },
  { cls := 10, slots := #[.int (-74)], vm := .none },
  { cls := 10, slots := #[.int (-73)], vm := .none },
  { cls := 10, slots := #[.int (-72)], vm := .none },
  { cls := 10, slots := #[.int (-71)], vm := .none },
  { cls := 10, slots := #[.int (-70)], vm := .none },
  { cls := 10, slots := #[.int (-69)], vm := .none },
  { cls := 10, slots := #[.int (-68)], vm := .none },
  { cls := 10, slots := #[.int (-67)], vm := .none },
  { cls := 10, slots := #[.int (-66)], vm := .none },
  { cls := 10, slots := #[.int (-65)], vm := .none },
  { cls := 10, slots := #[.int (-64)], vm := .none },
  { cls := 10, slots := #[.int (-63)], vm := .none },
  { cls := 10, slots := #[.int (-62)], vm := .none },
  { cls := 10, slots := #[.int (-61)], vm := .none },
  { cls := 10, slots := #[.int (-60)], vm := .none },
  { cls := 10, slots := #[.int (-59)], vm := .none },
  { cls := 10, slots := #[.int (-58)], vm := .none },
  { cls := 10, slots := #[.int (-57)], vm := .none },
  { cls := 10, slots := #[.int (-56)], vm := .none },
  { cls := 10, slots := #[.int (-55)], vm := .none },
  { cls := 10, slots := #[.int (-54)], vm := .none },
  { cls := 10, slots := #[.int (-53)], vm := .none },
  { cls := 10, slots := #[.int (-52)], vm := .none },
  { cls := 10, slots := #[.int (-51)], vm := .none },
  { cls := 10, slots := #[.int (-50)], vm := .none },
  { cls := 10, slots := #[.int (-49)], vm := .none },
  { cls := 10, slots := #[.int (-48)], vm := .none },
  { cls := 10, slots := #[.int (-47)], vm := .none },
  { cls := 10, slots := #[.int (-46)], vm := .none },
  { cls := 10, slots := #[.int (-45)], vm := .none },
  { cls := 10, slots := #[.int (-44)], vm := .none },
  { cls := 10, slots := #[.int (-43)], vm := .none },
  { cls := 10, slots := #[.int (-42)], vm := .none },
  { cls := 10, slots := #[.int (-41)], vm := .none },
  { cls := 10, slots := #[.int (-40)], vm := .none },
  { cls := 10, slots := #[.int (-39)], vm := .none },
  { cls := 10, slots := #[.int (-38)], vm := .none },
  { cls := 10, slots := #[.int (-37)], vm := .none },
  { cls := 10, slots := #[.int (-36)], vm := .none },
  { cls := 10, slots := #[.int (-35)], vm := .none },
  { cls := 10, slots := #[.int (-34)], vm := .none },
  { cls := 10, slots := #[.int (-33)], vm := .none },
  { cls := 10, slots := #[.int (-32)], vm := .none },
  { cls := 10, slots := #[.int (-31)], vm := .none },
  { cls := 10, slots := #[.int (-30)], vm := .none },
  { cls := 10, slots := #[.int (-29)], vm := .none },
  { cls := 10, slots := #[.int (-28)], vm := .none },
  { cls := 10, slots := #[.int (-27)], vm := .none },
  { cls := 10, slots := #[.int (-26)], vm := .none },
  { cls := 10, slots := #[.int (-25)], vm := .none },
  { cls := 10, slots := #[.int (-24)], vm := .none },
  { cls := 10, slots := #[.int (-23)], vm := .none },
  { cls := 10, slots := #[.int (-22)], vm := .none },
  { cls := 10, slots := #[.int (-21)], vm := .none },
  { cls := 10, slots := #[.int (-20)], vm := .none },
  { cls := 10, slots := #[.int (-19)], vm := .none },
  { cls := 10, slots := #[.int (-18)], vm := .none },
  { cls := 10, slots := #[.int (-17)], vm := .none },
  { cls := 10, slots := #[.int (-16)], vm := .none },
  { cls := 10, slots := #[.int (-15)], vm := .none },
  { cls := 10, slots := #[.int (-14)], vm := .none },
  { cls := 10, slots := #[.int (-13)], vm := .none },
  { cls := 10, slots := #[.int (-12)], vm := .none },
  { cls := 10, slots := #[.int (-11)], vm := .none },
  { cls := 10, slots := #[.int (-10)], vm := .none },
  { cls := 10, slots := #[.int (-9)], vm := .none },
  { cls := 10, slots := #[.int (-8)], vm := .none },
  { cls := 10, slots := #[.int (-7)], vm := .none },
  { cls := 10, slots := #[.int (-6)], vm := .none },
  { cls := 10, slots := #[.int (-5)], vm := .none },
  { cls := 10, slots := #[.int (-4)], vm := .none },
  { cls := 10, slots := #[.int (-3)], vm := .none },
  { cls := 10, slots := #[.int (-2)], vm := .none },
  { cls := 10, slots := #[.int (-1)], vm := .none },
  { cls := 10, slots := #[.int 0], vm := .none },
  { cls := 10, slots := #[.int 1], vm := .none },
  { cls := 10, slots := #[.int 2], vm := .none },
  { cls := 10, slots := #[.int 3], vm := .none },
  { cls := 10, slots := #[.int 4], vm := .none },
  { cls := 10, slots := #[.int 5], vm := .none },
  { cls := 10, slots := #[.int 6], vm := .none },
  { cls := 10, slots := #[.int 7], vm := .none },
  { cls := 10, slots := #[.int 8], vm := .none },
  { cls := 10, slots := #[.int 9], vm := .none },
  { cls := 10, slots := #[.int 10], vm := .none },
  { cls := 10, slots := #[.int 11], vm := .none },
  { cls := 10, slots := #[.int 12], vm := .none },
  { cls := 10, slots := #[.int 13], vm := .none },
  { cls := 10, slots := #[.int 14], vm := .none },
  { cls := 10, slots := #[.int 15], vm := .none },
  { cls := 10, slots := #[.int 16], vm := .none },
  { cls := 10, slots := #[.int 17], vm := .none },
  { cls := 10, slots := #[.int 18], vm := .none },
  { cls := 10, slots := #[.int 19], vm := .none },
  { cls := 10, slots := #[.int 20], vm := .none },
  { cls := 10, slots := #[.int 21], vm := .none },
  { cls := 10, slots := #[.int 22], vm := .none },
  { cls := 10, slots := #[.int 23], vm := .none },
  { cls := 10, slots := #[.int 24], vm := .none },
  { cls := 10, slots := #[.int 25], vm := .none },
  { cls := 10, slots := #[.int 26], vm := .none },
  { cls := 10, slots := #[.int 27], vm := .none },
  { cls := 10, slots := #[.int 28], vm := .none },
  { cls := 10, slots := #[.int 29], vm := .none },
  { cls := 10, slots := #[.int 30], vm := .none },
  { cls := 10, slots := #[.int 31], vm := .none },
  { cls := 10, slots := #[.int 32], vm := .none },
  { cls := 10, slots := #[.int 33], vm := .none },
  { cls := 10, slots := #[.int 34], vm := .none },
  { cls := 10, slots := #[.int 35], vm := .none },
  { cls := 10, slots := #[.int 36], vm := .none },
  { cls := 10, slots := #[.int 37], vm := .none },
  { cls := 10, slots := #[.int 38], vm := .none },
  { cls := 10, slots := #[.int 39], vm := .none },
  { cls := 10, slots := #[.int 40], vm := .none },
  { cls := 10, slots := #[.int 41], vm := .none },
  { cls := 10, slots := #[.int 42], vm := .none },
  { cls := 10, slots := #[.int 43], vm := .none },
  { cls := 10, slots := #[.int 44], vm := .none },
  { cls := 10, slots := #[.int 45], vm := .none },
  { cls := 10, slots := #[.int 46], vm := .none },
  { cls := 10, slots := #[.int 47], vm := .none },
  { cls := 10, slots := #[.int 48], vm := .none },
  { cls := 10, slots := #[.int 49], vm := .none },
  { cls := 10, slots := #[.int 50], vm := .none },
  { cls := 10, slots := #[.int 51], vm := .none },
  { cls := 10, slots := #[.int 52], vm := .none },
  { cls := 10, slots := #[.int 53], vm := .none },
  { cls := 10, slots := #[.int 54], vm := .none },
  { cls := 10, slots := #[.int 55], vm := .none },
  { cls := 10, slots := #[.int 56], vm := .none },
  { cls := 10, slots := #[.int 57], vm := .none },
  { cls := 10, slots := #[.int 58], vm := .none },
  { cls := 10, slots := #[.int 59], vm := .none },
  { cls := 10, slots := #[.int 60], vm := .none },
  { cls := 10, slots := #[.int 61], vm := .none },
  { cls := 10, slots := #[.int 62], vm := .none },
  { cls := 10, slots := #[.int 63], vm := .none },
  { cls := 10, slots := #[.int 64], vm := .none },
  { cls := 10, slots := #[.int 65], vm := .none },
  { cls := 10, slots := #[.int 66], vm := .none },
  { cls := 10, slots := #[.int 67], vm := .none },
  { cls := 10, slots := #[.int 68], vm := .none },
  { cls := 10, slots := #[.int 69], vm := .none },
  { cls := 10, slots := #[.int 70], vm := .none },
  { cls := 10, slots := #[.int 71], vm := .none },
  { cls := 10, slots := #[.int 72], vm := .none },
  { cls := 10, slots := #[.int 73], vm := .none },
  { cls := 10, slots := #[.int 74], vm := .none },
  { cls := 10, slots := #[.int 75], vm := .none },
  { cls := 10, slots := #[.int 76], vm := .none },
  { cls := 10, slots := #[.int 77], vm := .none },
  { cls := 10, slots := #[.int 78], vm := .none },
  { cls := 10, slots := #[.int 79], vm := .none },
  { cls := 10, slots := #[.int 80], vm := .none },
  { cls := 10, slots := #[.int 81], vm := .none },
  { cls := 10, slots := #[.int 82], vm := .none },
  { cls := 10, slots := #[.int 83], vm := .none },
  { cls := 10, slots := #[.int 84], vm := .none },
  { cls := 10, slots := #[.int 85], vm := .none },
  { cls := 10, slots := #[.int 86], vm := .none },
  { cls := 10, slots := #[.int 87], vm := .none },
  { cls := 10, slots := #[.int 88], vm := .none },
  { cls := 10, slots := #[.int 89], vm := .none },
  { cls := 10, slots := #[.int 90], vm := .none },
  { cls := 10, slots := #[.int 91], vm := .none },
  { cls := 10, slots := #[.int 92], vm := .none },
  { cls := 10, slots := #[.int 93], vm := .none },
  { cls := 10, slots := #[.int 94], vm := .none },
  { cls := 10, slots := #[.int 95], vm := .none },
  { cls := 10, slots := #[.int 96], vm := .none },
  { cls := 10, slots := #[.int 97], vm := .none },
  { cls := 10, slots := #[.int 98], vm := .none },
  { cls := 10, slots := #[.int 99], vm := .none },
  { cls := 10, slots := #[.int 100], vm := .none },
  { cls := 10, slots := #[.int 101], vm := .none },
  { cls := 10, slots := #[.int 102], vm := .none },
  { cls := 10, slots := #[.int 103], vm := .none },
  { cls := 10, slots := #[.int 104], vm := .none },
  { cls := 10, slots := #[.int 105], vm := .none },
  { cls := 10, slots := #[.int 106], vm := .none },
  { cls := 10, slots := #[.int 107], vm := .none },
  { cls := 10, slots := #[.int 108], vm := .none },
  { cls := 10, slots := #[.int 109], vm := .none },
  { cls := 10, slots := #[.int 110], vm := .none },
  { cls := 10, slots := #[.int 111], vm := .none },
  { cls := 10, slots := #[.int 112], vm := .none },
  { cls := 10, slots := #[.int 113], vm := .none },
  { cls := 10, slots := #[.int 114], vm := .none },
  { cls := 10, slots := #[.int 115], vm := .none },
  { cls := 10, slots := #[.int 116], vm := .none },
  { cls := 10, slots := #[.int 117], vm := .none },
  { cls := 10, slots := #[.int 118], vm := .none },
  { cls := 10, slots := #[.int 119], vm := .none },
  { cls := 10, slots := #[.int 120], vm := .none },
  { cls := 10, slots := #[.int 121], vm := .none },
  { cls := 10, slots := #[.int 122], vm := .none },
  { cls := 10, slots := #[.int 123], vm := .none },
  { cls := 10, slots := #[.int 124], vm := .none },
  { cls := 10, slots := #[.int 125], vm := .none },
  { cls := 10, slots := #[.int 126], vm := .none },
  { cls := 10, slots := #[.int 127], vm := .none },
  { cls := 6, slots := #[.null, .int 0, .int 0, .int 0], vm := .none },
  { cls := 6, slots := #[.null, .int 1, .int 0, .int 0], vm := .none },
  { cls := 6, slots := #[.null, .int 2, .int 0, .int 0], vm := .none },
  { cls := 6, slots := #[.null, .int 3, .int 0, .int 0], vm := .none }]
def classes : Array Class := #[k0, k1, k2, k3, k4, k5, k6, k7, k8, k9, k10, k11, k12, k13, k14, k15, k16, k17]
def interned : List (Array UInt16 × Addr) := []
def slotsUsed : Nat := 538
def theMethod : MethodId := ⟨1, 2⟩
def args0 : Array Value := #[.long 5, .long 5, .long 5, .long 5, .int 5, .int 5]
def aboutOver (below : List Frame) : State where
  vm := { classes := classes, interned := interned.toArray }
  heap := heap
  slotsUsed := slotsUsed
  threads := #[{ frames := .invoking theMethod args0 :: below }]
def below0 : List Frame := [.native { method := ⟨0, 0⟩, args := #[] }]
def about1 : State := aboutOver below0
def p0 : Program := .bare "" "" ""
def e0 : Env := launch0.env 0 0 0
theorem w_frames : about1.frames = Frame.invoking theMethod args0 :: below0 := rfl
set_option maxRecDepth 65536 in
theorem w_args : argsFit about1.vm theMethod args0 = true := by decide +kernel
set_option maxRecDepth 65536 in
theorem w_heap : heapFits about1 = true := by decide +kernel
set_option maxRecDepth 65536 in
theorem w_runnable : about1.curStatus? = some .runnable := by decide +kernel
set_option maxRecDepth 65536 in
theorem w_alone : about1.alone = true := by decide +kernel
set_option maxRecDepth 65536 in
theorem w_named : about1.methodNamed? x = some theMethod := by decide +kernel
set_option maxRecDepth 65536 in
theorem w_hears : about1.hears theMethod below0 = true := by decide +kernel
set_option maxRecDepth 65536 in
theorem w_ripe : about1.ripe theMethod args0 below0 = true := by decide +kernel
theorem w_running : about1.status = .running := rfl
set_option maxRecDepth 65536 in
theorem w_room : about1.hasRoom e0.platform room_1 = true :=
  launch0.hasRoom_least _ room_1 (by decide +kernel) (by decide +kernel) (by decide +kernel) (by decide +kernel) (by decide +kernel) (by decide +kernel)
theorem allAtoms_all (ts : List Jvm.Cond) (a : Array Jvm.Value) (st : Jvm.State) : (allAtoms ts).before a st = ts.all (fun c => c.before a st) := by
  induction ts with
  | nil => rfl
  | cons c t ih =>
    show (Jvm.Cond.and c (allAtoms t)).before a st = _
    rw [Jvm.Cond.before_and, ih, List.all_cons]
def words1 : List Jvm.Cond := Jvm.Cond.code x code maxLocals ret :: tables_1
/-- a 'code' word, met by the world's own term for the bytes: nothing is compared byte by byte -/
theorem code_word {y : MethodName} {bytes : ByteArray} {mx : Nat} {rt : Option FieldType} {a : Array Value} {s : State} {m : MethodId} {meth : Method} {c : Code} (h1 : s.methodNamed? y = some m) (h2 : s.vm.method? m = some meth) (h3 : meth.code = some c) (h4 : c.code = bytes)
    (h5 : (c.maxLocals == mx && c.exceptionTable.isEmpty && decide (c.maxStack ≤ mostOperands) && decide (meth.sig.returnType = rt) && !meth.locks && decide (parseMethodDescriptor y.desc = some meth.sig)) = true) : (Jvm.Cond.code y bytes mx rt).before a s = true := by
  simp only [Bool.and_eq_true, beq_iff_eq, Bool.not_eq_true', decide_eq_true_eq] at h5
  obtain ⟨⟨⟨⟨⟨g1, g2⟩, g3⟩, g4⟩, g5⟩, g6⟩ := h5
  simp [Cond.before, Cond.holds, Cond.value, h1, h2, h3, h4, g1, g2, g3, g4, g5, g6]
def isCode : Jvm.Cond → Bool
  | .code _ _ _ _ => true
  | _ => false
theorem all_split {L : List Jvm.Cond} {P : Jvm.Cond → Bool} (h1 : L.all (fun c => isCode c || P c) = true) (h2 : ∀ c ∈ L.filter isCode, P c = true) : L.all P = true := by
  refine List.all_eq_true.mpr fun c hc => ?_
  have h := List.all_eq_true.mp h1 c hc
  rcases Bool.eq_false_or_eq_true (isCode c) with hi | hi
  · exact h2 c (List.mem_filter.mpr ⟨hc, hi⟩)
  · simpa [hi] using h
set_option maxRecDepth 65536 in
theorem w_c0 : (Jvm.Cond.code x code maxLocals ret).before args0 about1 = true := code_word (m := ⟨1, 2⟩) (meth := k1m2) (c := k1c2) (by decide +kernel) rfl rfl rfl (by decide +kernel)
set_option maxRecDepth 65536 in
theorem w_c1 : (Jvm.Cond.code ({ cls := "com/example/termite/termite/broker/RangeEqualsPinLaw", name := "pick", desc := "(I)Lcom/example/termite/termite/broker/RecordState;" } : Jvm.MethodName) method_2_code (1 : Nat) (Option.some (Jvm.ClassFile.FieldType.object "com/example/termite/termite/broker/RecordState"))).before args0 about1 = true := code_word (m := ⟨1, 1⟩) (meth := k1m1) (c := k1c1) (by decide +kernel) rfl rfl rfl (by decide +kernel)
set_option maxRecDepth 65536 in
theorem w_c2 : (Jvm.Cond.code ({ cls := "com/example/termite/termite/broker/ShareState$Range", name := "<init>", desc := "(JJLcom/example/termite/termite/broker/RecordState;S)V" } : Jvm.MethodName) prog_30_method_1_code (7 : Nat) (Option.none : Option Jvm.ClassFile.FieldType)).before args0 about1 = true := code_word (m := ⟨7, 0⟩) (meth := k7m0) (c := k7c0) (by decide +kernel) rfl rfl rfl (by decide +kernel)
set_option maxRecDepth 65536 in
theorem w_c3 : (Jvm.Cond.code ({ cls := "java/lang/Object", name := "<init>", desc := "()V" } : Jvm.MethodName) object_method_1_code (1 : Nat) (Option.none : Option Jvm.ClassFile.FieldType)).before args0 about1 = true := code_word (m := ⟨0, 0⟩) (meth := k0m0) (c := k0c0) (by decide +kernel) rfl rfl rfl (by decide +kernel)
set_option maxRecDepth 65536 in
theorem w_c4 : (Jvm.Cond.code ({ cls := "com/example/termite/termite/broker/ShareState$Range", name := "equals", desc := "(Ljava/lang/Object;)Z" } : Jvm.MethodName) prog_30_method_6_code (2 : Nat) (Option.some Jvm.ClassFile.FieldType.boolean)).before args0 about1 = true := code_word (m := ⟨7, 1⟩) (meth := k7m1) (c := k7c1) (by decide +kernel) rfl rfl rfl (by decide +kernel)
set_option maxRecDepth 65536 in
theorem w_c5 : (Jvm.Cond.code ({ cls := "java/lang/Integer", name := "valueOf", desc := "(I)Ljava/lang/Integer;" } : Jvm.MethodName) jdk_33_method_22_code (1 : Nat) (Option.some (Jvm.ClassFile.FieldType.object "java/lang/Integer"))).before args0 about1 = true := code_word (m := ⟨10, 0⟩) (meth := k10m0) (c := k10c0) (by decide +kernel) rfl rfl rfl (by decide +kernel)
set_option maxRecDepth 65536 in
theorem w_c6 : (Jvm.Cond.code ({ cls := "java/lang/Integer", name := "<init>", desc := "(I)V" } : Jvm.MethodName) jdk_33_method_23_code (2 : Nat) (Option.none : Option Jvm.ClassFile.FieldType)).before args0 about1 = true := code_word (m := ⟨10, 1⟩) (meth := k10m1) (c := k10c1) (by decide +kernel) rfl rfl rfl (by decide +kernel)
set_option maxRecDepth 65536 in
theorem w_c7 : (Jvm.Cond.code ({ cls := "java/lang/Number", name := "<init>", desc := "()V" } : Jvm.MethodName) jdk_18_method_1_code (1 : Nat) (Option.none : Option Jvm.ClassFile.FieldType)).before args0 about1 = true := code_word (m := ⟨8, 0⟩) (meth := k8m0) (c := k8c0) (by decide +kernel) rfl rfl rfl (by decide +kernel)
def codes1 : List Jvm.Cond := [Jvm.Cond.code x code maxLocals ret, Jvm.Cond.code ({ cls := "com/example/termite/termite/broker/RangeEqualsPinLaw", name := "pick", desc := "(I)Lcom/example/termite/termite/broker/RecordState;" } : Jvm.MethodName) method_2_code (1 : Nat) (Option.some (Jvm.ClassFile.FieldType.object "com/example/termite/termite/broker/RecordState")), Jvm.Cond.code ({ cls := "com/example/termite/termite/broker/ShareState$Range", name := "<init>", desc := "(JJLcom/example/termite/termite/broker/RecordState;S)V" } : Jvm.MethodName) prog_30_method_1_code (7 : Nat) (Option.none : Option Jvm.ClassFile.FieldType), Jvm.Cond.code ({ cls := "java/lang/Object", name := "<init>", desc := "()V" } : Jvm.MethodName) object_method_1_code (1 : Nat) (Option.none : Option Jvm.ClassFile.FieldType), Jvm.Cond.code ({ cls := "com/example/termite/termite/broker/ShareState$Range", name := "equals", desc := "(Ljava/lang/Object;)Z" } : Jvm.MethodName) prog_30_method_6_code (2 : Nat) (Option.some Jvm.ClassFile.FieldType.boolean), Jvm.Cond.code ({ cls := "java/lang/Integer", name := "valueOf", desc := "(I)Ljava/lang/Integer;" } : Jvm.MethodName) jdk_33_method_22_code (1 : Nat) (Option.some (Jvm.ClassFile.FieldType.object "java/lang/Integer")), Jvm.Cond.code ({ cls := "java/lang/Integer", name := "<init>", desc := "(I)V" } : Jvm.MethodName) jdk_33_method_23_code (2 : Nat) (Option.none : Option Jvm.ClassFile.FieldType), Jvm.Cond.code ({ cls := "java/lang/Number", name := "<init>", desc := "()V" } : Jvm.MethodName) jdk_18_method_1_code (1 : Nat) (Option.none : Option Jvm.ClassFile.FieldType)]
set_option maxRecDepth 65536 in
theorem codes_eq : words1.filter isCode = codes1 := rfl
theorem w_codes : ∀ c ∈ words1.filter isCode, c.before args0 about1 = true := by
  rw [codes_eq]
  intro c hc
  simp only [codes1, List.mem_cons, List.not_mem_nil, or_false] at hc
  rcases hc with rfl | rfl | rfl | rfl | rfl | rfl | rfl | rfl
  · exact w_c0
  · exact w_c1
  · exact w_c2
  · exact w_c3
  · exact w_c4
  · exact w_c5
  · exact w_c6
  · exact w_c7
set_option maxRecDepth 65536 in
theorem w_t1 : (words1.take 24).all (fun c => isCode c || c.before args0 about1) = true := by decide +kernel
set_option maxRecDepth 65536 in
theorem w_t2 : ((words1.drop 24).take 24).all (fun c => isCode c || c.before args0 about1) = true := by decide +kernel
set_option maxRecDepth 65536 in
theorem w_t3 : ((words1.drop 24).drop 24).all (fun c => isCode c || c.before args0 about1) = true := by decide +kernel
theorem w_tables : (allAtoms (Jvm.Cond.code x code maxLocals ret :: tables_1)).before args0 about1 = true := by
  rw [allAtoms_all]
  show words1.all (fun c => c.before args0 about1) = true
  refine all_split ?_ w_codes
  rw [← List.take_append_drop 24 words1, List.all_append, w_t1, ← List.take_append_drop 24 (words1.drop 24), List.all_append, w_t2, w_t3]
  rfl
set_option maxRecDepth 65536 in
theorem w_rest : rest_1_c.before args0 about1 = true := by decide +kernel
set_option maxRecDepth 65536 in
theorem w_case : (Jvm.Cond.and given_1 narrow_1).before args0 about1 = true := by decide +kernel
theorem w_applies : (headSpec (Jvm.Cond.code x code maxLocals ret :: tables_1) room_1).applies x e0.platform about1 = true :=
  (Spec.applies_iff w_frames).mpr ⟨w_running, w_runnable, w_alone, w_named, w_hears, w_ripe, w_room, w_tables⟩
theorem atStart : AtStart classFile x code maxLocals ret World_1 tables_1 room_1 Calls_1 rest_1 Pre_1 launch0 p0 e0 about1 theMethod args0 below0 :=
  ⟨lists_1, trivial, launch0.admits_env _ _ _, launch0.least_env, fairChoices_fair.cas, fairChoices_fair.clock, w_frames, w_args, w_heap, w_applies, trivial, w_rest, w_case⟩
end start1
theorem witness_1 : WitnessClaimed_1 := ⟨start1.p0, start1.e0, start1.about1, start1.theMethod, start1.args0, start1.below0, start1.atStart⟩
end Jvm.Pilot.@@N@@
