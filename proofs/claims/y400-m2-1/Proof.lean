import JvmDerived
import JvmDerived.Pilot.@@N@@Statement
import JvmDerived.Pilot.@@N@@Code
set_option linter.unusedVariables false
set_option linter.unusedSimpArgs false
namespace Jvm.RoadKit
open Sem ClassFile Op Lib Jvm.Stand Jvm.Free Jvm.LawKit
section New
variable {p : Program} {l : Launch} {e : Env} {R : Room} {s : State} {m : MethodId} {args : Array Value} {below : List Frame} {meth : Method} {c : Code} {T : State} {locs : List Loc} {cells slots : Nat}
theorem retI (X : Stand p l e R s m args below meth c T locs cells slots) (hx : p.tables.exec = Jvm.exec) {pc : Nat} {Ls : Array Slot} {z : Int32} {rest : List Value} (hret : meth.sig.returnType = some .int) (hd : decode c.code pc = .ok (.ireturn, 1)) {fs : List Frame}
    (hl : ∀ (f : JFrame) (acts : List Action), f.method = m → f.locked = none → f.entered = [] → (doReturn e (T.setTop f) acts (some (.int z))).1 = T.setFrames fs) : Steps p.tables e below (T.setTop (mkF m pc Ls (.int z :: rest))) (T.setFrames fs) := by
  have hm' : T.vm.method? m = some meth := X.method'
  have hn : narrow .int (.int z) = .int z := rfl
  show Steps p.tables e below (T.setTop { method := m, pc := pc, locals := Ls, stack := _ :: rest, locked := none }) _
  jvm_step X.here [X.here.top, hx, hd, hm', hret, hn]
  first | (intro acts; rw [hl _ acts rfl rfl rfl]) | rw [hl _ _ rfl rfl rfl]
  exact Steps.refl _
theorem retJ (X : Stand p l e R s m args below meth c T locs cells slots) (hx : p.tables.exec = Jvm.exec) {pc : Nat} {Ls : Array Slot} {z : Int64} {rest : List Value} (hret : meth.sig.returnType = some .long) (hd : decode c.code pc = .ok (.lreturn, 1)) {fs : List Frame}
    (hl : ∀ (f : JFrame) (acts : List Action), f.method = m → f.locked = none → f.entered = [] → (doReturn e (T.setTop f) acts (some (.long z))).1 = T.setFrames fs) : Steps p.tables e below (T.setTop (mkF m pc Ls (.long z :: rest))) (T.setFrames fs) := by
  have hm' : T.vm.method? m = some meth := X.method'
  have hn : narrow .long (.long z) = .long z := rfl
  show Steps p.tables e below (T.setTop { method := m, pc := pc, locals := Ls, stack := _ :: rest, locked := none }) _
  jvm_step X.here [X.here.top, hx, hd, hm', hret, hn]
  first | (intro acts; rw [hl _ acts rfl rfl rfl]) | rw [hl _ _ rfl rfl rfl]
  exact Steps.refl _
end New
end Jvm.RoadKit
namespace Jvm.Pilot.@@N@@
open Jvm Jvm.ClassFile Sem Op Lib Jvm.Free Jvm.Stand Jvm.LawKit Jvm.RoadKit Bundle Jvm.Pilot.@@N@@.Jvm.D
theorem own_j1 {G : Prop} {A : Prop → Prop} (h1 : A G) (h2 : A G → G) : G := h2 h1
theorem own_static {args : Array Value} {s : State} {C n d K : String} (h : (Jvm.Cond.exactly (Term.static C n d) K).value args s none s [] = some true) (hi : (Jvm.Cond.initialized C).before args s = true) (hl : (Jvm.Cond.laysStatic C n d).before args s = true) :
    ∃ a, (Term.static C n d).eval args s none [] s = some (.ref a) ∧ Exa s s.heap a K ∧ Sta s s.heap C n d (.ref a) := by
  obtain ⟨a, ev⟩ := exa_v h
  exact ⟨a, ev, Exa.start ev h, Sta.start ev (Or.inr ⟨hi, hl⟩)⟩
theorem own_ord {args : Array Value} {s : State} {C n d : String} {a : Addr} {k : Int32} (ev : (Term.static C n d).eval args s none [] s = some (.ref a)) (h : (Jvm.Cond.eq (Term.field (Term.static C n d) "java/lang/Enum" "ordinal" "I") (Term.int k)).value args s none s [] = some true) :
    Fld s s.heap a "java/lang/Enum" "ordinal" "I" (.int k) := by
  have q := Jvm.Free.NT.SwA.eq_int (Cond.before_iff.mpr h)
  rw [fld_at ev] at q
  exact Fld.start q
theorem own_vne {x y : Int32} (h : x ≠ y) : Value.int x ≠ Value.int y := fun q => h (Value.int.inj q)
def own_act (k : Int32) (a0 a1 a2 a3 a4 a5 a6 a7 a8 : Addr) : Addr := if k = 0 then a0 else if k = 1 then a1 else if k = 2 then a2 else if k = 3 then a3 else if k = 4 then a4 else if k = 5 then a5 else if k = 6 then a6 else if k = 7 then a7 else a8
def own_in9 (k : Int32) : Prop := k = 0 ∨ k = 1 ∨ k = 2 ∨ k = 3 ∨ k = 4 ∨ k = 5 ∨ k = 6 ∨ k = 7 ∨ k = 8
theorem own_actF {Z : State} {h : Heap} {k : Int32} {a0 a1 a2 a3 a4 a5 a6 a7 a8 : Addr} (hk : own_in9 k) (f0 : Fld Z h a0 "java/lang/Enum" "ordinal" "I" (.int 0)) (f1 : Fld Z h a1 "java/lang/Enum" "ordinal" "I" (.int 1)) (f2 : Fld Z h a2 "java/lang/Enum" "ordinal" "I" (.int 2)) (f3 : Fld Z h a3 "java/lang/Enum" "ordinal" "I" (.int 3)) (f4 : Fld Z h a4 "java/lang/Enum" "ordinal" "I" (.int 4)) (f5 : Fld Z h a5 "java/lang/Enum" "ordinal" "I" (.int 5)) (f6 : Fld Z h a6 "java/lang/Enum" "ordinal" "I" (.int 6)) (f7 : Fld Z h a7 "java/lang/Enum" "ordinal" "I" (.int 7)) (f8 : Fld Z h a8 "java/lang/Enum" "ordinal" "I" (.int 8)) : Fld Z h (own_act k a0 a1 a2 a3 a4 a5 a6 a7 a8) "java/lang/Enum" "ordinal" "I" (.int k) := by
  rcases hk with h | h | h | h | h | h | h | h | h <;> subst h
  · exact f0
  · exact f1
  · exact f2
  · exact f3
  · exact f4
  · exact f5
  · exact f6
  · exact f7
  · exact f8
theorem own_k9 (p : Int32) : let k := (p &&& (2147483647 : Int32)) % (9 : Int32); own_in9 k := by
  intro k
  have h0 := c_and p 2147483647 (by decide)
  have h1 := (c_irem (p &&& (2147483647 : Int32)) 9 9 (by decide)).1 h0.1
  have h2 : k.toInt = (p &&& (2147483647 : Int32)).toInt % 9 := h1
  have h3 : k.toInt = 0 ∨ k.toInt = 1 ∨ k.toInt = 2 ∨ k.toInt = 3 ∨ k.toInt = 4 ∨ k.toInt = 5 ∨ k.toInt = 6 ∨ k.toInt = 7 ∨ k.toInt = 8 := by omega
  rcases h3 with h | h | h | h | h | h | h | h | h
  · exact Or.inl (Int32.toInt_inj.mp h)
  · exact Or.inr (Or.inl (Int32.toInt_inj.mp h))
  · exact Or.inr (Or.inr (Or.inl (Int32.toInt_inj.mp h)))
  · exact Or.inr (Or.inr (Or.inr (Or.inl (Int32.toInt_inj.mp h))))
  · exact Or.inr (Or.inr (Or.inr (Or.inr (Or.inl (Int32.toInt_inj.mp h)))))
  · exact Or.inr (Or.inr (Or.inr (Or.inr (Or.inr (Or.inl (Int32.toInt_inj.mp h))))))
  · exact Or.inr (Or.inr (Or.inr (Or.inr (Or.inr (Or.inr (Or.inl (Int32.toInt_inj.mp h)))))))
  · exact Or.inr (Or.inr (Or.inr (Or.inr (Or.inr (Or.inr (Or.inr (Or.inl (Int32.toInt_inj.mp h))))))))
  · exact Or.inr (Or.inr (Or.inr (Or.inr (Or.inr (Or.inr (Or.inr (Or.inr (Int32.toInt_inj.mp h))))))))
theorem own_k10 (p : Int32) : let k := (p &&& (2147483647 : Int32)) % (10 : Int32); own_in9 k ∨ k = 9 := by
  intro k
  have h0 := c_and p 2147483647 (by decide)
  have h1 := (c_irem (p &&& (2147483647 : Int32)) 10 10 (by decide)).1 h0.1
  have h2 : k.toInt = (p &&& (2147483647 : Int32)).toInt % 10 := h1
  have h3 : k.toInt = 0 ∨ k.toInt = 1 ∨ k.toInt = 2 ∨ k.toInt = 3 ∨ k.toInt = 4 ∨ k.toInt = 5 ∨ k.toInt = 6 ∨ k.toInt = 7 ∨ k.toInt = 8 ∨ k.toInt = 9 := by omega
  rcases h3 with h | h | h | h | h | h | h | h | h | h
  · exact Or.inl (Or.inl (Int32.toInt_inj.mp h))
  · exact Or.inl (Or.inr (Or.inl (Int32.toInt_inj.mp h)))
  · exact Or.inl (Or.inr (Or.inr (Or.inl (Int32.toInt_inj.mp h))))
  · exact Or.inl (Or.inr (Or.inr (Or.inr (Or.inl (Int32.toInt_inj.mp h)))))
  · exact Or.inl (Or.inr (Or.inr (Or.inr (Or.inr (Or.inl (Int32.toInt_inj.mp h))))))
  · exact Or.inl (Or.inr (Or.inr (Or.inr (Or.inr (Or.inr (Or.inl (Int32.toInt_inj.mp h)))))))
  · exact Or.inl (Or.inr (Or.inr (Or.inr (Or.inr (Or.inr (Or.inr (Or.inl (Int32.toInt_inj.mp h))))))))
  · exact Or.inl (Or.inr (Or.inr (Or.inr (Or.inr (Or.inr (Or.inr (Or.inr (Or.inl (Int32.toInt_inj.mp h)))))))))
  · exact Or.inl (Or.inr (Or.inr (Or.inr (Or.inr (Or.inr (Or.inr (Or.inr (Or.inr (Int32.toInt_inj.mp h)))))))))
  · exact Or.inr (Int32.toInt_inj.mp h)
theorem own_not9 {k : Int32} (h : own_in9 k) : ¬ k = 9 := by rcases h with h | h | h | h | h | h | h | h | h <;> subst h <;> decide
theorem own_narz {z : Int32} (h : z = 0 ∨ z = 1) : nar .boolean z = z := by rcases h with h | h <;> subst h <;> rfl
theorem own_wS {a0 : Array Value} {Z : State} (hw : ∀ d ∈ tables_1, d.before a0 Z = true) : ∀ a ∈ Bundle.stringAtoms, a.before a0 Z = true := by
  intro a ha
  simp only [Bundle.stringAtoms, List.mem_cons, List.not_mem_nil, or_false] at ha
  rcases ha with rfl | rfl | rfl | rfl | rfl | rfl | rfl
  · exact (hw _ (List.mem_of_getElem? (i := 16) rfl))
  · exact (hw _ (List.mem_of_getElem? (i := 17) rfl))
  · exact (hw _ (List.mem_of_getElem? (i := 18) rfl))
  · exact (hw _ (List.mem_of_getElem? (i := 19) rfl))
  · exact (hw _ (List.mem_of_getElem? (i := 20) rfl))
  · exact (hw _ (List.mem_of_getElem? (i := 21) rfl))
  · exact (hw _ (List.mem_of_getElem? (i := 22) rfl))
theorem d1_0 : decode method_2_code 0 = .ok (.iload_n 0, 1) := by decide +kernel
theorem d1_1 : decode method_2_code 1 = .ok (.ifCond .ne 7, 3) := by decide +kernel
theorem d1_4 : decode method_2_code 4 = .ok (.getstatic 7, 3) := by decide +kernel
theorem d1_7 : decode method_2_code 7 = .ok (.areturn, 1) := by decide +kernel
theorem d1_8 : decode method_2_code 8 = .ok (.iload_n 0, 1) := by decide +kernel
theorem d1_9 : decode method_2_code 9 = .ok (.iconst 1, 1) := by decide +kernel
theorem d1_10 : decode method_2_code 10 = .ok (.if_icmp .ne 7, 3) := by decide +kernel
theorem d1_13 : decode method_2_code 13 = .ok (.getstatic 13, 3) := by decide +kernel
theorem d1_16 : decode method_2_code 16 = .ok (.areturn, 1) := by decide +kernel
theorem d1_17 : decode method_2_code 17 = .ok (.iload_n 0, 1) := by decide +kernel
theorem d1_18 : decode method_2_code 18 = .ok (.iconst 2, 1) := by decide +kernel
theorem d1_19 : decode method_2_code 19 = .ok (.if_icmp .ne 7, 3) := by decide +kernel
theorem d1_22 : decode method_2_code 22 = .ok (.getstatic 16, 3) := by decide +kernel
theorem d1_25 : decode method_2_code 25 = .ok (.areturn, 1) := by decide +kernel
theorem d1_26 : decode method_2_code 26 = .ok (.iload_n 0, 1) := by decide +kernel
theorem d1_27 : decode method_2_code 27 = .ok (.iconst 3, 1) := by decide +kernel
theorem d1_28 : decode method_2_code 28 = .ok (.if_icmp .ne 7, 3) := by decide +kernel
theorem d1_31 : decode method_2_code 31 = .ok (.getstatic 19, 3) := by decide +kernel
theorem d1_34 : decode method_2_code 34 = .ok (.areturn, 1) := by decide +kernel
theorem d1_35 : decode method_2_code 35 = .ok (.iload_n 0, 1) := by decide +kernel
theorem d1_36 : decode method_2_code 36 = .ok (.iconst 4, 1) := by decide +kernel
theorem d1_37 : decode method_2_code 37 = .ok (.if_icmp .ne 7, 3) := by decide +kernel
theorem d1_40 : decode method_2_code 40 = .ok (.getstatic 22, 3) := by decide +kernel
theorem d1_43 : decode method_2_code 43 = .ok (.areturn, 1) := by decide +kernel
theorem d1_44 : decode method_2_code 44 = .ok (.iload_n 0, 1) := by decide +kernel
theorem d1_45 : decode method_2_code 45 = .ok (.iconst 5, 1) := by decide +kernel
theorem d1_46 : decode method_2_code 46 = .ok (.if_icmp .ne 7, 3) := by decide +kernel
theorem d1_49 : decode method_2_code 49 = .ok (.getstatic 25, 3) := by decide +kernel
theorem d1_52 : decode method_2_code 52 = .ok (.areturn, 1) := by decide +kernel
theorem d1_53 : decode method_2_code 53 = .ok (.iload_n 0, 1) := by decide +kernel
theorem d1_54 : decode method_2_code 54 = .ok (.bipush 6, 2) := by decide +kernel
theorem d1_56 : decode method_2_code 56 = .ok (.if_icmp .ne 7, 3) := by decide +kernel
theorem d1_59 : decode method_2_code 59 = .ok (.getstatic 28, 3) := by decide +kernel
theorem d1_62 : decode method_2_code 62 = .ok (.areturn, 1) := by decide +kernel
theorem d1_63 : decode method_2_code 63 = .ok (.iload_n 0, 1) := by decide +kernel
theorem d1_64 : decode method_2_code 64 = .ok (.bipush 7, 2) := by decide +kernel
theorem d1_66 : decode method_2_code 66 = .ok (.if_icmp .ne 7, 3) := by decide +kernel
theorem d1_69 : decode method_2_code 69 = .ok (.getstatic 31, 3) := by decide +kernel
theorem d1_72 : decode method_2_code 72 = .ok (.areturn, 1) := by decide +kernel
theorem d1_73 : decode method_2_code 73 = .ok (.iload_n 0, 1) := by decide +kernel
theorem d1_74 : decode method_2_code 74 = .ok (.bipush 8, 2) := by decide +kernel
theorem d1_76 : decode method_2_code 76 = .ok (.if_icmp .ne 7, 3) := by decide +kernel
theorem d1_79 : decode method_2_code 79 = .ok (.getstatic 34, 3) := by decide +kernel
theorem d1_82 : decode method_2_code 82 = .ok (.areturn, 1) := by decide +kernel
theorem pn_0 : plainName "com/example/muster/muster/RuleBesidesPinLaw" = true := by first | (simp [plainName, overriddenIn]; done) | decide +kernel
theorem ef_rmA (m : MethodId) (x0 : Int32) : entryFrame m #[(.int x0)] 1 = mkF m 0 #[.val (.int x0)] [] := by first | (simp [entryFrame, mkF, argsToLocals, Value.category]; done) | rfl
def QrmA (Z : State) (kx : Int32) (en0 : Addr) (en1 : Addr) (en2 : Addr) (en3 : Addr) (en4 : Addr) (en5 : Addr) (en6 : Addr) (en7 : Addr) (en8 : Addr) (h0 : Heap) (n0 : Nat) (v : Option Value) (h : Heap) (L : List Loc) : Prop := v = some (.ref (own_act kx en0 en1 en2 en3 en4 en5 en6 en7 en8)) ∧ Fr n0 L ∧ h = h0
set_option maxRecDepth 65536 in
set_option maxHeartbeats 40000000 in
theorem rmA (l : Launch) (Z : State) (a0 : Array Value) (hw : ∀ d ∈ tables_1, d.before a0 Z = true) (ws : List Jvm.Cond) (kx : Int32) (en0 : Addr) (en1 : Addr) (en2 : Addr) (en3 : Addr) (en4 : Addr) (en5 : Addr) (en6 : Addr) (en7 : Addr) (en8 : Addr) (h0 : Heap) (n0 : Nat) (Z0 : n0 ≤ h0.size) (S_0 : Sta Z h0 "com/example/muster/muster/StrategicAction" "IDLE" "Lcom/example/muster/muster/StrategicAction;" (.ref en0)) (S_1 : Sta Z h0 "com/example/muster/muster/StrategicAction" "BUILD_WORKER" "Lcom/example/muster/muster/StrategicAction;" (.ref en1)) (S_2 : Sta Z h0 "com/example/muster/muster/StrategicAction" "BUILD_BARRACKS" "Lcom/example/muster/muster/StrategicAction;" (.ref en2)) (S_3 : Sta Z h0 "com/example/muster/muster/StrategicAction" "BUILD_MELEE" "Lcom/example/muster/muster/StrategicAction;" (.ref en3)) (S_4 : Sta Z h0 "com/example/muster/muster/StrategicAction" "BUILD_RANGED" "Lcom/example/muster/muster/StrategicAction;" (.ref en4)) (S_5 : Sta Z h0 "com/example/muster/muster/StrategicAction" "HIT_AND_RUN" "Lcom/example/muster/muster/StrategicAction;" (.ref en5)) (S_6 : Sta Z h0 "com/example/muster/muster/StrategicAction" "ATTACK" "Lcom/example/muster/muster/StrategicAction;" (.ref en6)) (S_7 : Sta Z h0 "com/example/muster/muster/StrategicAction" "ATTACK_IN_RANGE" "Lcom/example/muster/muster/StrategicAction;" (.ref en7)) (S_8 : Sta Z h0 "com/example/muster/muster/StrategicAction" "ALL_DEFEND" "Lcom/example/muster/muster/StrategicAction;" (.ref en8)) (hk : own_in9 kx) :
    MetFree l (⟨"com/example/muster/muster/RuleBesidesPinLaw", "action", "(I)Lcom/example/muster/muster/StrategicAction;"⟩ : MethodName) (head1 (Jvm.Cond.code (⟨"com/example/muster/muster/RuleBesidesPinLaw", "action", "(I)Lcom/example/muster/muster/StrategicAction;"⟩ : MethodName) method_2_code 1 (some (.object "com/example/muster/muster/StrategicAction")) :: ws) ({ frames := 0, cells := 0, slots := 0, locals := 0 } : Room)) (fun a U => a = #[(.int kx)] ∧ Z.Warmed39 U.vm ∧ U.heap = h0) (fun _ _ _ _ _ => True) (fun _ U o U' => ∃ v L, o = .returned v ∧ QrmA Z kx en0 en1 en2 en3 en4 en5 en6 en7 en8 h0 n0 v U'.heap L ∧ FrameEnd U o U' L ({ frames := 0, cells := 0, slots := 0, locals := 0 } : Room).cells ({ frames := 0, cells := 0, slots := 0, locals := 0 } : Room).slots) := by
  refine MetFree.of_bodySF (plainFor_of_name pn_0) hisR ?_
  intro p e s m args below meth c s₁ Bd hml0 hP hK
  obtain ⟨rfl, hZ, hh⟩ := hP
  have hx := Bd.exec
  have hby := Bd.bytes
  have hml : c.maxLocals = 1 := hml0
  have hown : s.vm.findClass "com/example/muster/muster/RuleBesidesPinLaw" = some m.cls := findClass_of_methodNamed Bd.named
  have hnm := (name_of_methodNamed Bd.named Bd.method).1
  have X0 : Stand p l e ({ frames := 0, cells := 0, slots := 0, locals := 0 } : Room) s m #[(.int kx)] below meth c s₁ [] 0 0 := Stand.of_body Bd
  have e0 : s₁.heap = h0 := by rw [← hh, Bd.state]; rfl
  have N0 := Fr.nil n0
  have pre0 : ∀ t_, Steps p.tables e below (s₁.setTop (mkF m 0 #[.val (.int kx)] [])) t_ → Steps p.tables e below (s₁.setTop (entryFrame m #[(.int kx)] 1)) t_ := fun t_ k_ => castTop (ef_rmA m kx) k_
  have pre101 : ∀ t_, Steps p.tables e below (s₁.setTop (mkF m 1 #[.val (.int kx)] [(.int kx)])) t_ → Steps p.tables e below (s₁.setTop (entryFrame m #[(.int kx)] 1)) t_ := fun t_ k_ => pre0 _ (by
    show Steps p.tables e below (s₁.setTop (mkF m 0 #[.val (.int kx)] [])) _
    refine XS.iloadN X0.here hx rfl (hb hby d1_0) rfl ?_
    exact k_)
  by_cases hc0 : kx = (0 : Int32)
  · skip
    obtain ⟨T102, X102, e102, st102⟩ := getS2 X0 hx hZ hown (host := "") (Or.inl (hw _ (List.mem_of_getElem? (i := 5) rfl))) Via.refl e0 S_0 (g := (mkF m 4 #[.val (.int kx)] [])) rfl (hb hby d1_4)
    have pre103 : ∀ t_, Steps p.tables e below (T102.setTop (mkF m 7 #[.val (.int kx)] [(.ref en0)])) t_ → Steps p.tables e below (s₁.setTop (entryFrame m #[(.int kx)] 1)) t_ := fun t_ k_ => pre101 _ (by
      show Steps p.tables e below (s₁.setTop (mkF m 1 #[.val (.int kx)] [(.int kx)])) _
      refine XS.ifNo X0.here hx rfl (hb hby d1_1) rfl ((if0 _ _).trans (teq hc0).2) ?_
      show Steps p.tables e below (s₁.setTop (mkF m 4 #[.val (.int kx)] [])) _
      refine st102 _ ?_
      exact k_)
    obtain ⟨fs, hr, hrun, hended, hW, hsame⟩ := X102.leave (v := some (.ref en0)) (fun h => by rw [Bd.returns] at h; cases h)
    refine ⟨_, _, pre103 _ ?_, hrun, hended, _, _, rfl, ?_, ⟨_, rfl⟩, hW, hsame.mono (by decide) (by decide)⟩
    · show Steps p.tables e below (T102.setTop (mkF m 7 #[.val (.int kx)] [(.ref en0)])) _
      jvm_step X102.here [X102.here.top, hx, (hb hby d1_7), X102.method', Bd.returns, Value.isRef, FieldType.isReference]
      first | (intro acts; rw [hr _ acts rfl rfl rfl]) | rw [hr _ _ rfl rfl rfl]
      exact Steps.refl _
    · show QrmA Z kx en0 en1 en2 en3 en4 en5 en6 en7 en8 h0 n0 _ T102.heap _
      rw [e102]
      exact ⟨by rw [own_act, if_pos hc0], N0, rfl⟩
  · skip
    have pre104 : ∀ t_, Steps p.tables e below (s₁.setTop (mkF m 10 #[.val (.int kx)] [(.int (1 : Int32)), (.int kx)])) t_ → Steps p.tables e below (s₁.setTop (entryFrame m #[(.int kx)] 1)) t_ := fun t_ k_ => pre101 _ (by
      show Steps p.tables e below (s₁.setTop (mkF m 1 #[.val (.int kx)] [(.int kx)])) _
      refine XS.ifYes X0.here hx rfl (pc0 := 1) (pc' := 8) rfl (hb hby d1_1) rfl ((if0 _ _).trans (feq hc0).2) (by decide) (by decide) ?_
      show Steps p.tables e below (s₁.setTop (mkF m 8 #[.val (.int kx)] [])) _
      refine XS.iloadN X0.here hx rfl (hb hby d1_8) rfl ?_
      show Steps p.tables e below (s₁.setTop (mkF m 9 #[.val (.int kx)] [(.int kx)])) _
      refine XS.iconst X0.here hx rfl (hb hby d1_9) ?_
      exact k_)
    by_cases hc1 : kx = (1 : Int32)
    · skip
      obtain ⟨T105, X105, e105, st105⟩ := getS2 X0 hx hZ hown (host := "") (Or.inl (hw _ (List.mem_of_getElem? (i := 55) rfl))) Via.refl e0 S_1 (g := (mkF m 13 #[.val (.int kx)] [])) rfl (hb hby d1_13)
      have pre106 : ∀ t_, Steps p.tables e below (T105.setTop (mkF m 16 #[.val (.int kx)] [(.ref en1)])) t_ → Steps p.tables e below (s₁.setTop (entryFrame m #[(.int kx)] 1)) t_ := fun t_ k_ => pre104 _ (by
        show Steps p.tables e below (s₁.setTop (mkF m 10 #[.val (.int kx)] [(.int (1 : Int32)), (.int kx)])) _
        refine XS.icmpNo X0.here hx rfl (hb hby d1_10) rfl (teq hc1).2 ?_
        show Steps p.tables e below (s₁.setTop (mkF m 13 #[.val (.int kx)] [])) _
        refine st105 _ ?_
        exact k_)
      obtain ⟨fs, hr, hrun, hended, hW, hsame⟩ := X105.leave (v := some (.ref en1)) (fun h => by rw [Bd.returns] at h; cases h)
      refine ⟨_, _, pre106 _ ?_, hrun, hended, _, _, rfl, ?_, ⟨_, rfl⟩, hW, hsame.mono (by decide) (by decide)⟩
      · show Steps p.tables e below (T105.setTop (mkF m 16 #[.val (.int kx)] [(.ref en1)])) _
        jvm_step X105.here [X105.here.top, hx, (hb hby d1_16), X105.method', Bd.returns, Value.isRef, FieldType.isReference]
        first | (intro acts; rw [hr _ acts rfl rfl rfl]) | rw [hr _ _ rfl rfl rfl]
        exact Steps.refl _
      · show QrmA Z kx en0 en1 en2 en3 en4 en5 en6 en7 en8 h0 n0 _ T105.heap _
        rw [e105]
        exact ⟨by rw [own_act, if_neg hc0, if_pos hc1], N0, rfl⟩
    · skip
      have pre107 : ∀ t_, Steps p.tables e below (s₁.setTop (mkF m 19 #[.val (.int kx)] [(.int (2 : Int32)), (.int kx)])) t_ → Steps p.tables e below (s₁.setTop (entryFrame m #[(.int kx)] 1)) t_ := fun t_ k_ => pre104 _ (by
        show Steps p.tables e below (s₁.setTop (mkF m 10 #[.val (.int kx)] [(.int (1 : Int32)), (.int kx)])) _
        refine XS.icmpYes X0.here hx rfl (pc0 := 10) (pc' := 17) rfl (hb hby d1_10) rfl (feq hc1).2 (by decide) (by decide) ?_
        show Steps p.tables e below (s₁.setTop (mkF m 17 #[.val (.int kx)] [])) _
        refine XS.iloadN X0.here hx rfl (hb hby d1_17) rfl ?_
        show Steps p.tables e below (s₁.setTop (mkF m 18 #[.val (.int kx)] [(.int kx)])) _
        refine XS.iconst X0.here hx rfl (hb hby d1_18) ?_
        exact k_)
      by_cases hc2 : kx = (2 : Int32)
      · skip
        obtain ⟨T108, X108, e108, st108⟩ := getS2 X0 hx hZ hown (host := "") (Or.inl (hw _ (List.mem_of_getElem? (i := 10) rfl))) Via.refl e0 S_2 (g := (mkF m 22 #[.val (.int kx)] [])) rfl (hb hby d1_22)
        have pre109 : ∀ t_, Steps p.tables e below (T108.setTop (mkF m 25 #[.val (.int kx)] [(.ref en2)])) t_ → Steps p.tables e below (s₁.setTop (entryFrame m #[(.int kx)] 1)) t_ := fun t_ k_ => pre107 _ (by
          show Steps p.tables e below (s₁.setTop (mkF m 19 #[.val (.int kx)] [(.int (2 : Int32)), (.int kx)])) _
          refine XS.icmpNo X0.here hx rfl (hb hby d1_19) rfl (teq hc2).2 ?_
          show Steps p.tables e below (s₁.setTop (mkF m 22 #[.val (.int kx)] [])) _
          refine st108 _ ?_
          exact k_)
        obtain ⟨fs, hr, hrun, hended, hW, hsame⟩ := X108.leave (v := some (.ref en2)) (fun h => by rw [Bd.returns] at h; cases h)
        refine ⟨_, _, pre109 _ ?_, hrun, hended, _, _, rfl, ?_, ⟨_, rfl⟩, hW, hsame.mono (by decide) (by decide)⟩
        · show Steps p.tables e below (T108.setTop (mkF m 25 #[.val (.int kx)] [(.ref en2)])) _
          jvm_step X108.here [X108.here.top, hx, (hb hby d1_25), X108.method', Bd.returns, Value.isRef, FieldType.isReference]
          first | (intro acts; rw [hr _ acts rfl rfl rfl]) | rw [hr _ _ rfl rfl rfl]
          exact Steps.refl _
        · show QrmA Z kx en0 en1 en2 en3 en4 en5 en6 en7 en8 h0 n0 _ T108.heap _
          rw [e108]
          exact ⟨by rw [own_act, if_neg hc0, if_neg hc1, if_pos hc2], N0, rfl⟩
      · skip
        have pre110 : ∀ t_, Steps p.tables e below (s₁.setTop (mkF m 28 #[.val (.int kx)] [(.int (3 : Int32)), (.int kx)])) t_ → Steps p.tables e below (s₁.setTop (entryFrame m #[(.int kx)] 1)) t_ := fun t_ k_ => pre107 _ (by
          show Steps p.tables e below (s₁.setTop (mkF m 19 #[.val (.int kx)] [(.int (2 : Int32)), (.int kx)])) _
          refine XS.icmpYes X0.here hx rfl (pc0 := 19) (pc' := 26) rfl (hb hby d1_19) rfl (feq hc2).2 (by decide) (by decide) ?_
          show Steps p.tables e below (s₁.setTop (mkF m 26 #[.val (.int kx)] [])) _
          refine XS.iloadN X0.here hx rfl (hb hby d1_26) rfl ?_
          show Steps p.tables e below (s₁.setTop (mkF m 27 #[.val (.int kx)] [(.int kx)])) _
          refine XS.iconst X0.here hx rfl (hb hby d1_27) ?_
          exact k_)
        by_cases hc3 : kx = (3 : Int32)
        · skip
          obtain ⟨T111, X111, e111, st111⟩ := getS2 X0 hx hZ hown (host := "") (Or.inl (hw _ (List.mem_of_getElem? (i := 8) rfl))) Via.refl e0 S_3 (g := (mkF m 31 #[.val (.int kx)] [])) rfl (hb hby d1_31)
          have pre112 : ∀ t_, Steps p.tables e below (T111.setTop (mkF m 34 #[.val (.int kx)] [(.ref en3)])) t_ → Steps p.tables e below (s₁.setTop (entryFrame m #[(.int kx)] 1)) t_ := fun t_ k_ => pre110 _ (by
            show Steps p.tables e below (s₁.setTop (mkF m 28 #[.val (.int kx)] [(.int (3 : Int32)), (.int kx)])) _
            refine XS.icmpNo X0.here hx rfl (hb hby d1_28) rfl (teq hc3).2 ?_
            show Steps p.tables e below (s₁.setTop (mkF m 31 #[.val (.int kx)] [])) _
            refine st111 _ ?_
            exact k_)
          obtain ⟨fs, hr, hrun, hended, hW, hsame⟩ := X111.leave (v := some (.ref en3)) (fun h => by rw [Bd.returns] at h; cases h)
          refine ⟨_, _, pre112 _ ?_, hrun, hended, _, _, rfl, ?_, ⟨_, rfl⟩, hW, hsame.mono (by decide) (by decide)⟩
          · show Steps p.tables e below (T111.setTop (mkF m 34 #[.val (.int kx)] [(.ref en3)])) _
            jvm_step X111.here [X111.here.top, hx, (hb hby d1_34), X111.method', Bd.returns, Value.isRef, FieldType.isReference]
            first | (intro acts; rw [hr _ acts rfl rfl rfl]) | rw [hr _ _ rfl rfl rfl]
            exact Steps.refl _
          · show QrmA Z kx en0 en1 en2 en3 en4 en5 en6 en7 en8 h0 n0 _ T111.heap _
            rw [e111]
            exact ⟨by rw [own_act, if_neg hc0, if_neg hc1, if_neg hc2, if_pos hc3], N0, rfl⟩
        · skip
          have pre113 : ∀ t_, Steps p.tables e below (s₁.setTop (mkF m 37 #[.val (.int kx)] [(.int (4 : Int32)), (.int kx)])) t_ → Steps p.tables e below (s₁.setTop (entryFrame m #[(.int kx)] 1)) t_ := fun t_ k_ => pre110 _ (by
            show Steps p.tables e below (s₁.setTop (mkF m 28 #[.val (.int kx)] [(.int (3 : Int32)), (.int kx)])) _
            refine XS.icmpYes X0.here hx rfl (pc0 := 28) (pc' := 35) rfl (hb hby d1_28) rfl (feq hc3).2 (by decide) (by decide) ?_
            show Steps p.tables e below (s₁.setTop (mkF m 35 #[.val (.int kx)] [])) _
            refine XS.iloadN X0.here hx rfl (hb hby d1_35) rfl ?_
            show Steps p.tables e below (s₁.setTop (mkF m 36 #[.val (.int kx)] [(.int kx)])) _
            refine XS.iconst X0.here hx rfl (hb hby d1_36) ?_
            exact k_)
          by_cases hc4 : kx = (4 : Int32)
          · skip
            obtain ⟨T114, X114, e114, st114⟩ := getS2 X0 hx hZ hown (host := "") (Or.inl (hw _ (List.mem_of_getElem? (i := 51) rfl))) Via.refl e0 S_4 (g := (mkF m 40 #[.val (.int kx)] [])) rfl (hb hby d1_40)
            have pre115 : ∀ t_, Steps p.tables e below (T114.setTop (mkF m 43 #[.val (.int kx)] [(.ref en4)])) t_ → Steps p.tables e below (s₁.setTop (entryFrame m #[(.int kx)] 1)) t_ := fun t_ k_ => pre113 _ (by
              show Steps p.tables e below (s₁.setTop (mkF m 37 #[.val (.int kx)] [(.int (4 : Int32)), (.int kx)])) _
              refine XS.icmpNo X0.here hx rfl (hb hby d1_37) rfl (teq hc4).2 ?_
              show Steps p.tables e below (s₁.setTop (mkF m 40 #[.val (.int kx)] [])) _
              refine st114 _ ?_
              exact k_)
            obtain ⟨fs, hr, hrun, hended, hW, hsame⟩ := X114.leave (v := some (.ref en4)) (fun h => by rw [Bd.returns] at h; cases h)
            refine ⟨_, _, pre115 _ ?_, hrun, hended, _, _, rfl, ?_, ⟨_, rfl⟩, hW, hsame.mono (by decide) (by decide)⟩
            · show Steps p.tables e below (T114.setTop (mkF m 43 #[.val (.int kx)] [(.ref en4)])) _
              jvm_step X114.here [X114.here.top, hx, (hb hby d1_43), X114.method', Bd.returns, Value.isRef, FieldType.isReference]
              first | (intro acts; rw [hr _ acts rfl rfl rfl]) | rw [hr _ _ rfl rfl rfl]
              exact Steps.refl _
            · show QrmA Z kx en0 en1 en2 en3 en4 en5 en6 en7 en8 h0 n0 _ T114.heap _
              rw [e114]
              exact ⟨by rw [own_act, if_neg hc0, if_neg hc1, if_neg hc2, if_neg hc3, if_pos hc4], N0, rfl⟩
          · skip
            have pre116 : ∀ t_, Steps p.tables e below (s₁.setTop (mkF m 46 #[.val (.int kx)] [(.int (5 : Int32)), (.int kx)])) t_ → Steps p.tables e below (s₁.setTop (entryFrame m #[(.int kx)] 1)) t_ := fun t_ k_ => pre113 _ (by
              show Steps p.tables e below (s₁.setTop (mkF m 37 #[.val (.int kx)] [(.int (4 : Int32)), (.int kx)])) _
              refine XS.icmpYes X0.here hx rfl (pc0 := 37) (pc' := 44) rfl (hb hby d1_37) rfl (feq hc4).2 (by decide) (by decide) ?_
              show Steps p.tables e below (s₁.setTop (mkF m 44 #[.val (.int kx)] [])) _
              refine XS.iloadN X0.here hx rfl (hb hby d1_44) rfl ?_
              show Steps p.tables e below (s₁.setTop (mkF m 45 #[.val (.int kx)] [(.int kx)])) _
              refine XS.iconst X0.here hx rfl (hb hby d1_45) ?_
              exact k_)
            by_cases hc5 : kx = (5 : Int32)
            · skip
              obtain ⟨T117, X117, e117, st117⟩ := getS2 X0 hx hZ hown (host := "") (Or.inl (hw _ (List.mem_of_getElem? (i := 57) rfl))) Via.refl e0 S_5 (g := (mkF m 49 #[.val (.int kx)] [])) rfl (hb hby d1_49)
              have pre118 : ∀ t_, Steps p.tables e below (T117.setTop (mkF m 52 #[.val (.int kx)] [(.ref en5)])) t_ → Steps p.tables e below (s₁.setTop (entryFrame m #[(.int kx)] 1)) t_ := fun t_ k_ => pre116 _ (by
                show Steps p.tables e below (s₁.setTop (mkF m 46 #[.val (.int kx)] [(.int (5 : Int32)), (.int kx)])) _
                refine XS.icmpNo X0.here hx rfl (hb hby d1_46) rfl (teq hc5).2 ?_
                show Steps p.tables e below (s₁.setTop (mkF m 49 #[.val (.int kx)] [])) _
                refine st117 _ ?_
                exact k_)
              obtain ⟨fs, hr, hrun, hended, hW, hsame⟩ := X117.leave (v := some (.ref en5)) (fun h => by rw [Bd.returns] at h; cases h)
              refine ⟨_, _, pre118 _ ?_, hrun, hended, _, _, rfl, ?_, ⟨_, rfl⟩, hW, hsame.mono (by decide) (by decide)⟩
              · show Steps p.tables e below (T117.setTop (mkF m 52 #[.val (.int kx)] [(.ref en5)])) _
                jvm_step X117.here [X117.here.top, hx, (hb hby d1_52), X117.method', Bd.returns, Value.isRef, FieldType.isReference]
                first | (intro acts; rw [hr _ acts rfl rfl rfl]) | rw [hr _ _ rfl rfl rfl]
                exact Steps.refl _
              · show QrmA Z kx en0 en1 en2 en3 en4 en5 en6 en7 en8 h0 n0 _ T117.heap _
                rw [e117]
                exact ⟨by rw [own_act, if_neg hc0, if_neg hc1, if_neg hc2, if_neg hc3, if_neg hc4, if_pos hc5], N0, rfl⟩
            · skip
              have pre119 : ∀ t_, Steps p.tables e below (s₁.setTop (mkF m 56 #[.val (.int kx)] [(.int (6 : Int32)), (.int kx)])) t_ → Steps p.tables e below (s₁.setTop (entryFrame m #[(.int kx)] 1)) t_ := fun t_ k_ => pre116 _ (by
                show Steps p.tables e below (s₁.setTop (mkF m 46 #[.val (.int kx)] [(.int (5 : Int32)), (.int kx)])) _
                refine XS.icmpYes X0.here hx rfl (pc0 := 46) (pc' := 53) rfl (hb hby d1_46) rfl (feq hc5).2 (by decide) (by decide) ?_
                show Steps p.tables e below (s₁.setTop (mkF m 53 #[.val (.int kx)] [])) _
                refine XS.iloadN X0.here hx rfl (hb hby d1_53) rfl ?_
                show Steps p.tables e below (s₁.setTop (mkF m 54 #[.val (.int kx)] [(.int kx)])) _
                refine XS.bipush X0.here hx rfl (hb hby d1_54) ?_
                exact k_)
              by_cases hc6 : kx = (6 : Int32)
              · skip
                obtain ⟨T120, X120, e120, st120⟩ := getS2 X0 hx hZ hown (host := "") (Or.inl (hw _ (List.mem_of_getElem? (i := 59) rfl))) Via.refl e0 S_6 (g := (mkF m 59 #[.val (.int kx)] [])) rfl (hb hby d1_59)
                have pre121 : ∀ t_, Steps p.tables e below (T120.setTop (mkF m 62 #[.val (.int kx)] [(.ref en6)])) t_ → Steps p.tables e below (s₁.setTop (entryFrame m #[(.int kx)] 1)) t_ := fun t_ k_ => pre119 _ (by
                  show Steps p.tables e below (s₁.setTop (mkF m 56 #[.val (.int kx)] [(.int (6 : Int32)), (.int kx)])) _
                  refine XS.icmpNo X0.here hx rfl (hb hby d1_56) rfl (teq hc6).2 ?_
                  show Steps p.tables e below (s₁.setTop (mkF m 59 #[.val (.int kx)] [])) _
                  refine st120 _ ?_
                  exact k_)
                obtain ⟨fs, hr, hrun, hended, hW, hsame⟩ := X120.leave (v := some (.ref en6)) (fun h => by rw [Bd.returns] at h; cases h)
                refine ⟨_, _, pre121 _ ?_, hrun, hended, _, _, rfl, ?_, ⟨_, rfl⟩, hW, hsame.mono (by decide) (by decide)⟩
                · show Steps p.tables e below (T120.setTop (mkF m 62 #[.val (.int kx)] [(.ref en6)])) _
                  jvm_step X120.here [X120.here.top, hx, (hb hby d1_62), X120.method', Bd.returns, Value.isRef, FieldType.isReference]
                  first | (intro acts; rw [hr _ acts rfl rfl rfl]) | rw [hr _ _ rfl rfl rfl]
                  exact Steps.refl _
                · show QrmA Z kx en0 en1 en2 en3 en4 en5 en6 en7 en8 h0 n0 _ T120.heap _
                  rw [e120]
                  exact ⟨by rw [own_act, if_neg hc0, if_neg hc1, if_neg hc2, if_neg hc3, if_neg hc4, if_neg hc5, if_pos hc6], N0, rfl⟩
              · skip
                have pre122 : ∀ t_, Steps p.tables e below (s₁.setTop (mkF m 66 #[.val (.int kx)] [(.int (7 : Int32)), (.int kx)])) t_ → Steps p.tables e below (s₁.setTop (entryFrame m #[(.int kx)] 1)) t_ := fun t_ k_ => pre119 _ (by
                  show Steps p.tables e below (s₁.setTop (mkF m 56 #[.val (.int kx)] [(.int (6 : Int32)), (.int kx)])) _
                  refine XS.icmpYes X0.here hx rfl (pc0 := 56) (pc' := 63) rfl (hb hby d1_56) rfl (feq hc6).2 (by decide) (by decide) ?_
                  show Steps p.tables e below (s₁.setTop (mkF m 63 #[.val (.int kx)] [])) _
                  refine XS.iloadN X0.here hx rfl (hb hby d1_63) rfl ?_
                  show Steps p.tables e below (s₁.setTop (mkF m 64 #[.val (.int kx)] [(.int kx)])) _
                  refine XS.bipush X0.here hx rfl (hb hby d1_64) ?_
                  exact k_)
                by_cases hc7 : kx = (7 : Int32)
                · skip
                  obtain ⟨T123, X123, e123, st123⟩ := getS2 X0 hx hZ hown (host := "") (Or.inl (hw _ (List.mem_of_getElem? (i := 61) rfl))) Via.refl e0 S_7 (g := (mkF m 69 #[.val (.int kx)] [])) rfl (hb hby d1_69)
                  have pre124 : ∀ t_, Steps p.tables e below (T123.setTop (mkF m 72 #[.val (.int kx)] [(.ref en7)])) t_ → Steps p.tables e below (s₁.setTop (entryFrame m #[(.int kx)] 1)) t_ := fun t_ k_ => pre122 _ (by
                    show Steps p.tables e below (s₁.setTop (mkF m 66 #[.val (.int kx)] [(.int (7 : Int32)), (.int kx)])) _
                    refine XS.icmpNo X0.here hx rfl (hb hby d1_66) rfl (teq hc7).2 ?_
                    show Steps p.tables e below (s₁.setTop (mkF m 69 #[.val (.int kx)] [])) _
                    refine st123 _ ?_
                    exact k_)
                  obtain ⟨fs, hr, hrun, hended, hW, hsame⟩ := X123.leave (v := some (.ref en7)) (fun h => by rw [Bd.returns] at h; cases h)
                  refine ⟨_, _, pre124 _ ?_, hrun, hended, _, _, rfl, ?_, ⟨_, rfl⟩, hW, hsame.mono (by decide) (by decide)⟩
                  · show Steps p.tables e below (T123.setTop (mkF m 72 #[.val (.int kx)] [(.ref en7)])) _
                    jvm_step X123.here [X123.here.top, hx, (hb hby d1_72), X123.method', Bd.returns, Value.isRef, FieldType.isReference]
                    first | (intro acts; rw [hr _ acts rfl rfl rfl]) | rw [hr _ _ rfl rfl rfl]
                    exact Steps.refl _
                  · show QrmA Z kx en0 en1 en2 en3 en4 en5 en6 en7 en8 h0 n0 _ T123.heap _
                    rw [e123]
                    exact ⟨by rw [own_act, if_neg hc0, if_neg hc1, if_neg hc2, if_neg hc3, if_neg hc4, if_neg hc5, if_neg hc6, if_pos hc7], N0, rfl⟩
                · skip
                  have h8 : kx = 8 := by
                    rcases hk with q | q | q | q | q | q | q | q | q
                    · exact absurd q hc0
                    · exact absurd q hc1
                    · exact absurd q hc2
                    · exact absurd q hc3
                    · exact absurd q hc4
                    · exact absurd q hc5
                    · exact absurd q hc6
                    · exact absurd q hc7
                    · exact q
                  obtain ⟨T125, X125, e125, st125⟩ := getS2 X0 hx hZ hown (host := "") (Or.inl (hw _ (List.mem_of_getElem? (i := 53) rfl))) Via.refl e0 S_8 (g := (mkF m 79 #[.val (.int kx)] [])) rfl (hb hby d1_79)
                  have pre126 : ∀ t_, Steps p.tables e below (T125.setTop (mkF m 82 #[.val (.int kx)] [(.ref en8)])) t_ → Steps p.tables e below (s₁.setTop (entryFrame m #[(.int kx)] 1)) t_ := fun t_ k_ => pre122 _ (by
                    show Steps p.tables e below (s₁.setTop (mkF m 66 #[.val (.int kx)] [(.int (7 : Int32)), (.int kx)])) _
                    refine XS.icmpYes X0.here hx rfl (pc0 := 66) (pc' := 73) rfl (hb hby d1_66) rfl (feq hc7).2 (by decide) (by decide) ?_
                    show Steps p.tables e below (s₁.setTop (mkF m 73 #[.val (.int kx)] [])) _
                    refine XS.iloadN X0.here hx rfl (hb hby d1_73) rfl ?_
                    show Steps p.tables e below (s₁.setTop (mkF m 74 #[.val (.int kx)] [(.int kx)])) _
                    refine XS.bipush X0.here hx rfl (hb hby d1_74) ?_
                    show Steps p.tables e below (s₁.setTop (mkF m 76 #[.val (.int kx)] [(.int (8 : Int32)), (.int kx)])) _
                    refine XS.icmpNo X0.here hx rfl (hb hby d1_76) rfl (teq h8).2 ?_
                    show Steps p.tables e below (s₁.setTop (mkF m 79 #[.val (.int kx)] [])) _
                    refine st125 _ ?_
                    exact k_)
                  obtain ⟨fs, hr, hrun, hended, hW, hsame⟩ := X125.leave (v := some (.ref en8)) (fun h => by rw [Bd.returns] at h; cases h)
                  refine ⟨_, _, pre126 _ ?_, hrun, hended, _, _, rfl, ?_, ⟨_, rfl⟩, hW, hsame.mono (by decide) (by decide)⟩
                  · show Steps p.tables e below (T125.setTop (mkF m 82 #[.val (.int kx)] [(.ref en8)])) _
                    jvm_step X125.here [X125.here.top, hx, (hb hby d1_82), X125.method', Bd.returns, Value.isRef, FieldType.isReference]
                    first | (intro acts; rw [hr _ acts rfl rfl rfl]) | rw [hr _ _ rfl rfl rfl]
                    exact Steps.refl _
                  · show QrmA Z kx en0 en1 en2 en3 en4 en5 en6 en7 en8 h0 n0 _ T125.heap _
                    rw [e125]
                    exact ⟨by rw [own_act, if_neg hc0, if_neg hc1, if_neg hc2, if_neg hc3, if_neg hc4, if_neg hc5, if_neg hc6, if_neg hc7], N0, rfl⟩
theorem d1_83 : decode method_2_code 83 = .ok (.aconst_null, 1) := by decide +kernel
theorem d1_84 : decode method_2_code 84 = .ok (.areturn, 1) := by decide +kernel
theorem ef_rmA9 (m : MethodId) (x0 : Int32) : entryFrame m #[(.int x0)] 1 = mkF m 0 #[.val (.int x0)] [] := by first | (simp [entryFrame, mkF, argsToLocals, Value.category]; done) | rfl
def QrmA9 (Z : State) (kx : Int32) (h0 : Heap) (n0 : Nat) (v : Option Value) (h : Heap) (L : List Loc) : Prop := v = some .null ∧ Fr n0 L ∧ h = h0
set_option maxRecDepth 65536 in
set_option maxHeartbeats 40000000 in
theorem rmA9 (l : Launch) (Z : State) (a0 : Array Value) (hw : ∀ d ∈ tables_1, d.before a0 Z = true) (ws : List Jvm.Cond) (kx : Int32) (h0 : Heap) (n0 : Nat) (Z0 : n0 ≤ h0.size) (hk : kx = 9) :
    MetFree l (⟨"com/example/muster/muster/RuleBesidesPinLaw", "action", "(I)Lcom/example/muster/muster/StrategicAction;"⟩ : MethodName) (head1 (Jvm.Cond.code (⟨"com/example/muster/muster/RuleBesidesPinLaw", "action", "(I)Lcom/example/muster/muster/StrategicAction;"⟩ : MethodName) method_2_code 1 (some (.object "com/example/muster/muster/StrategicAction")) :: ws) ({ frames := 0, cells := 0, slots := 0, locals := 0 } : Room)) (fun a U => a = #[(.int kx)] ∧ Z.Warmed39 U.vm ∧ U.heap = h0) (fun _ _ _ _ _ => True) (fun _ U o U' => ∃ v L, o = .returned v ∧ QrmA9 Z kx h0 n0 v U'.heap L ∧ FrameEnd U o U' L ({ frames := 0, cells := 0, slots := 0, locals := 0 } : Room).cells ({ frames := 0, cells := 0, slots := 0, locals := 0 } : Room).slots) := by
  refine MetFree.of_bodySF (plainFor_of_name pn_0) hisR ?_
  intro p e s m args below meth c s₁ Bd hml0 hP hK
  obtain ⟨rfl, hZ, hh⟩ := hP
  have hx := Bd.exec
  have hby := Bd.bytes
  have hml : c.maxLocals = 1 := hml0
  have hown : s.vm.findClass "com/example/muster/muster/RuleBesidesPinLaw" = some m.cls := findClass_of_methodNamed Bd.named
  have hnm := (name_of_methodNamed Bd.named Bd.method).1
  have X0 : Stand p l e ({ frames := 0, cells := 0, slots := 0, locals := 0 } : Room) s m #[(.int kx)] below meth c s₁ [] 0 0 := Stand.of_body Bd
  have e0 : s₁.heap = h0 := by rw [← hh, Bd.state]; rfl
  have N0 := Fr.nil n0
  have pre0 : ∀ t_, Steps p.tables e below (s₁.setTop (mkF m 0 #[.val (.int kx)] [])) t_ → Steps p.tables e below (s₁.setTop (entryFrame m #[(.int kx)] 1)) t_ := fun t_ k_ => castTop (ef_rmA9 m kx) k_
  have pre101 : ∀ t_, Steps p.tables e below (s₁.setTop (mkF m 84 #[.val (.int kx)] [.null])) t_ → Steps p.tables e below (s₁.setTop (entryFrame m #[(.int kx)] 1)) t_ := fun t_ k_ => pre0 _ (by
    show Steps p.tables e below (s₁.setTop (mkF m 0 #[.val (.int kx)] [])) _
    refine XS.iloadN X0.here hx rfl (hb hby d1_0) rfl ?_
    show Steps p.tables e below (s₁.setTop (mkF m 1 #[.val (.int kx)] [(.int kx)])) _
    refine XS.ifYes X0.here hx rfl (pc0 := 1) (pc' := 8) rfl (hb hby d1_1) rfl ((if0 _ _).trans (feq (by rw [hk]; decide)).2) (by decide) (by decide) ?_
    show Steps p.tables e below (s₁.setTop (mkF m 8 #[.val (.int kx)] [])) _
    refine XS.iloadN X0.here hx rfl (hb hby d1_8) rfl ?_
    show Steps p.tables e below (s₁.setTop (mkF m 9 #[.val (.int kx)] [(.int kx)])) _
    refine XS.iconst X0.here hx rfl (hb hby d1_9) ?_
    show Steps p.tables e below (s₁.setTop (mkF m 10 #[.val (.int kx)] [(.int (1 : Int32)), (.int kx)])) _
    refine XS.icmpYes X0.here hx rfl (pc0 := 10) (pc' := 17) rfl (hb hby d1_10) rfl (feq (by rw [hk]; decide)).2 (by decide) (by decide) ?_
    show Steps p.tables e below (s₁.setTop (mkF m 17 #[.val (.int kx)] [])) _
    refine XS.iloadN X0.here hx rfl (hb hby d1_17) rfl ?_
    show Steps p.tables e below (s₁.setTop (mkF m 18 #[.val (.int kx)] [(.int kx)])) _
    refine XS.iconst X0.here hx rfl (hb hby d1_18) ?_
    show Steps p.tables e below (s₁.setTop (mkF m 19 #[.val (.int kx)] [(.int (2 : Int32)), (.int kx)])) _
    refine XS.icmpYes X0.here hx rfl (pc0 := 19) (pc' := 26) rfl (hb hby d1_19) rfl (feq (by rw [hk]; decide)).2 (by decide) (by decide) ?_
    show Steps p.tables e below (s₁.setTop (mkF m 26 #[.val (.int kx)] [])) _
    refine XS.iloadN X0.here hx rfl (hb hby d1_26) rfl ?_
    show Steps p.tables e below (s₁.setTop (mkF m 27 #[.val (.int kx)] [(.int kx)])) _
    refine XS.iconst X0.here hx rfl (hb hby d1_27) ?_
    show Steps p.tables e below (s₁.setTop (mkF m 28 #[.val (.int kx)] [(.int (3 : Int32)), (.int kx)])) _
    refine XS.icmpYes X0.here hx rfl (pc0 := 28) (pc' := 35) rfl (hb hby d1_28) rfl (feq (by rw [hk]; decide)).2 (by decide) (by decide) ?_
    show Steps p.tables e below (s₁.setTop (mkF m 35 #[.val (.int kx)] [])) _
    refine XS.iloadN X0.here hx rfl (hb hby d1_35) rfl ?_
    show Steps p.tables e below (s₁.setTop (mkF m 36 #[.val (.int kx)] [(.int kx)])) _
    refine XS.iconst X0.here hx rfl (hb hby d1_36) ?_
    show Steps p.tables e below (s₁.setTop (mkF m 37 #[.val (.int kx)] [(.int (4 : Int32)), (.int kx)])) _
    refine XS.icmpYes X0.here hx rfl (pc0 := 37) (pc' := 44) rfl (hb hby d1_37) rfl (feq (by rw [hk]; decide)).2 (by decide) (by decide) ?_
    show Steps p.tables e below (s₁.setTop (mkF m 44 #[.val (.int kx)] [])) _
    refine XS.iloadN X0.here hx rfl (hb hby d1_44) rfl ?_
    show Steps p.tables e below (s₁.setTop (mkF m 45 #[.val (.int kx)] [(.int kx)])) _
    refine XS.iconst X0.here hx rfl (hb hby d1_45) ?_
    show Steps p.tables e below (s₁.setTop (mkF m 46 #[.val (.int kx)] [(.int (5 : Int32)), (.int kx)])) _
    refine XS.icmpYes X0.here hx rfl (pc0 := 46) (pc' := 53) rfl (hb hby d1_46) rfl (feq (by rw [hk]; decide)).2 (by decide) (by decide) ?_
    show Steps p.tables e below (s₁.setTop (mkF m 53 #[.val (.int kx)] [])) _
    refine XS.iloadN X0.here hx rfl (hb hby d1_53) rfl ?_
    show Steps p.tables e below (s₁.setTop (mkF m 54 #[.val (.int kx)] [(.int kx)])) _
    refine XS.bipush X0.here hx rfl (hb hby d1_54) ?_
    show Steps p.tables e below (s₁.setTop (mkF m 56 #[.val (.int kx)] [(.int (6 : Int32)), (.int kx)])) _
    refine XS.icmpYes X0.here hx rfl (pc0 := 56) (pc' := 63) rfl (hb hby d1_56) rfl (feq (by rw [hk]; decide)).2 (by decide) (by decide) ?_
    show Steps p.tables e below (s₁.setTop (mkF m 63 #[.val (.int kx)] [])) _
    refine XS.iloadN X0.here hx rfl (hb hby d1_63) rfl ?_
    show Steps p.tables e below (s₁.setTop (mkF m 64 #[.val (.int kx)] [(.int kx)])) _
    refine XS.bipush X0.here hx rfl (hb hby d1_64) ?_
    show Steps p.tables e below (s₁.setTop (mkF m 66 #[.val (.int kx)] [(.int (7 : Int32)), (.int kx)])) _
    refine XS.icmpYes X0.here hx rfl (pc0 := 66) (pc' := 73) rfl (hb hby d1_66) rfl (feq (by rw [hk]; decide)).2 (by decide) (by decide) ?_
    show Steps p.tables e below (s₁.setTop (mkF m 73 #[.val (.int kx)] [])) _
    refine XS.iloadN X0.here hx rfl (hb hby d1_73) rfl ?_
    show Steps p.tables e below (s₁.setTop (mkF m 74 #[.val (.int kx)] [(.int kx)])) _
    refine XS.bipush X0.here hx rfl (hb hby d1_74) ?_
    show Steps p.tables e below (s₁.setTop (mkF m 76 #[.val (.int kx)] [(.int (8 : Int32)), (.int kx)])) _
    refine XS.icmpYes X0.here hx rfl (pc0 := 76) (pc' := 83) rfl (hb hby d1_76) rfl (feq (by rw [hk]; decide)).2 (by decide) (by decide) ?_
    show Steps p.tables e below (s₁.setTop (mkF m 83 #[.val (.int kx)] [])) _
    refine XS.aconstNull X0.here hx rfl (hb hby d1_83) ?_
    exact k_)
  obtain ⟨fs, hr, hrun, hended, hW, hsame⟩ := X0.leave (v := some .null) (fun h => by rw [Bd.returns] at h; cases h)
  refine ⟨_, _, pre101 _ ?_, hrun, hended, _, _, rfl, ?_, ⟨_, rfl⟩, hW, hsame.mono (by decide) (by decide)⟩
  · show Steps p.tables e below (s₁.setTop (mkF m 84 #[.val (.int kx)] [.null])) _
    jvm_step X0.here [X0.here.top, hx, (hb hby d1_84), X0.method', Bd.returns, Value.isRef, FieldType.isReference]
    first | (intro acts; rw [hr _ acts rfl rfl rfl]) | rw [hr _ _ rfl rfl rfl]
    exact Steps.refl _
  · show QrmA9 Z kx h0 n0 _ s₁.heap _
    rw [e0]
    exact ⟨rfl, N0, rfl⟩
theorem d3_0 : decode jdk_30_method_1_code 0 = .ok (.aload_n 0, 1) := by decide +kernel
theorem d3_1 : decode jdk_30_method_1_code 1 = .ok (.invokespecial 1, 3) := by decide +kernel
theorem d3_4 : decode jdk_30_method_1_code 4 = .ok (.return_, 1) := by decide +kernel
theorem pn_1 : plainName "java/lang/Record" = true := by first | (simp [plainName, overriddenIn]; done) | decide +kernel
theorem ef_rmR (m : MethodId) (x0 : Addr) : entryFrame m #[(.ref x0)] 1 = mkF m 0 #[.val (.ref x0)] [] := by first | (simp [entryFrame, mkF, argsToLocals, Value.category]; done) | rfl
def QrmR (Z : State) (a1 : Addr) (h0 : Heap) (n0 : Nat) (v : Option Value) (h : Heap) (L : List Loc) : Prop := v = none ∧ Fr n0 L ∧ h = h0
set_option maxRecDepth 65536 in
set_option maxHeartbeats 40000000 in
theorem rmR (l : Launch) (Z : State) (a0 : Array Value) (hw : ∀ d ∈ tables_1, d.before a0 Z = true) (ws : List Jvm.Cond) (a1 : Addr) (h0 : Heap) (n0 : Nat) (Z0 : n0 ≤ h0.size) :
    MetFree l (⟨"java/lang/Record", "<init>", "()V"⟩ : MethodName) (head1 (Jvm.Cond.code (⟨"java/lang/Record", "<init>", "()V"⟩ : MethodName) jdk_30_method_1_code 1 none :: ws) ({ frames := 1, cells := 0, slots := 0, locals := 12 } : Room)) (fun a U => a = #[(.ref a1)] ∧ Z.Warmed39 U.vm ∧ U.heap = h0) (fun _ _ _ _ _ => True) (fun _ U o U' => ∃ v L, o = .returned v ∧ QrmR Z a1 h0 n0 v U'.heap L ∧ FrameEnd U o U' L ({ frames := 1, cells := 0, slots := 0, locals := 12 } : Room).cells ({ frames := 1, cells := 0, slots := 0, locals := 12 } : Room).slots) := by
  refine MetFree.of_bodySF (plainFor_of_name pn_1) hisR ?_
  intro p e s m args below meth c s₁ Bd hml0 hP hK
  obtain ⟨rfl, hZ, hh⟩ := hP
  have hx := Bd.exec
  have hby := Bd.bytes
  have hml : c.maxLocals = 1 := hml0
  have hown : s.vm.findClass "java/lang/Record" = some m.cls := findClass_of_methodNamed Bd.named
  have hnm := (name_of_methodNamed Bd.named Bd.method).1
  have X0 : Stand p l e ({ frames := 1, cells := 0, slots := 0, locals := 12 } : Room) s m #[(.ref a1)] below meth c s₁ [] 0 0 := Stand.of_body Bd
  have e0 : s₁.heap = h0 := by rw [← hh, Bd.state]; rfl
  have N0 := Fr.nil n0
  have pre0 : ∀ t_, Steps p.tables e below (s₁.setTop (mkF m 0 #[.val (.ref a1)] [])) t_ → Steps p.tables e below (s₁.setTop (entryFrame m #[(.ref a1)] 1)) t_ := fun t_ k_ => castTop (ef_rmR m a1) k_
  obtain ⟨T101, X101, e101, st101⟩ := initO X0 hx hZ hown (hw _ (List.mem_of_getElem? (i := 31) rfl)) (hw _ (List.mem_of_getElem? (i := 32) rfl)) (hw _ (List.mem_of_getElem? (i := 33) rfl)) e0 (g := (mkF m 1 #[.val (.ref a1)] [(.ref a1)])) rfl (by rw [hml]; rfl) rfl (hb hby d3_1) (by decide) (W := 0) (by show 2 * 0 + _ ≤ _; exact Nat.le_of_eq rfl) (by decide)
  have pre102 : ∀ t_, Steps p.tables e below (T101.setTop (mkF m 4 #[.val (.ref a1)] [])) t_ → Steps p.tables e below (s₁.setTop (entryFrame m #[(.ref a1)] 1)) t_ := fun t_ k_ => pre0 _ (by
    show Steps p.tables e below (s₁.setTop (mkF m 0 #[.val (.ref a1)] [])) _
    refine XS.aloadN X0.here hx rfl (hb hby d3_0) rfl rfl ?_
    show Steps p.tables e below (s₁.setTop (mkF m 1 #[.val (.ref a1)] [(.ref a1)])) _
    refine st101 _ ?_
    exact k_)
  obtain ⟨fs, hr, hrun, hended, hW, hsame⟩ := X101.leave (v := none) (fun _ => rfl)
  refine ⟨_, _, pre102 _ ?_, hrun, hended, _, _, rfl, ?_, ⟨_, rfl⟩, hW, hsame.mono (by decide) (by decide)⟩
  · show Steps p.tables e below (T101.setTop (mkF m 4 #[.val (.ref a1)] [])) _
    exact X101.returnOut hx Bd.returns (hb hby d3_4) hr
  · show QrmR Z a1 h0 n0 _ T101.heap _
    rw [e101]
    exact ⟨rfl, N0, rfl⟩
theorem pd_0 : parseMethodDescriptor "()V" = some ⟨[], none⟩ := by decide +kernel
theorem d2_0 : decode prog_46_method_1_code 0 = .ok (.aload_n 0, 1) := by decide +kernel
theorem d2_1 : decode prog_46_method_1_code 1 = .ok (.invokespecial 1, 3) := by decide +kernel
theorem d2_4 : decode prog_46_method_1_code 4 = .ok (.aload_n 0, 1) := by decide +kernel
theorem d2_5 : decode prog_46_method_1_code 5 = .ok (.aload_n 1, 1) := by decide +kernel
theorem d2_6 : decode prog_46_method_1_code 6 = .ok (.putfield 7, 3) := by decide +kernel
theorem d2_9 : decode prog_46_method_1_code 9 = .ok (.aload_n 0, 1) := by decide +kernel
theorem d2_10 : decode prog_46_method_1_code 10 = .ok (.aload_n 2, 1) := by decide +kernel
theorem d2_11 : decode prog_46_method_1_code 11 = .ok (.putfield 13, 3) := by decide +kernel
theorem d2_14 : decode prog_46_method_1_code 14 = .ok (.aload_n 0, 1) := by decide +kernel
theorem d2_15 : decode prog_46_method_1_code 15 = .ok (.iload_n 3, 1) := by decide +kernel
theorem d2_16 : decode prog_46_method_1_code 16 = .ok (.putfield 17, 3) := by decide +kernel
theorem d2_19 : decode prog_46_method_1_code 19 = .ok (.aload_n 0, 1) := by decide +kernel
theorem d2_20 : decode prog_46_method_1_code 20 = .ok (.aload 4, 2) := by decide +kernel
theorem d2_22 : decode prog_46_method_1_code 22 = .ok (.putfield 21, 3) := by decide +kernel
theorem d2_25 : decode prog_46_method_1_code 25 = .ok (.aload_n 0, 1) := by decide +kernel
theorem d2_26 : decode prog_46_method_1_code 26 = .ok (.aload 5, 2) := by decide +kernel
theorem d2_28 : decode prog_46_method_1_code 28 = .ok (.putfield 25, 3) := by decide +kernel
theorem d2_31 : decode prog_46_method_1_code 31 = .ok (.aload_n 0, 1) := by decide +kernel
theorem d2_32 : decode prog_46_method_1_code 32 = .ok (.iload 6, 2) := by decide +kernel
theorem d2_34 : decode prog_46_method_1_code 34 = .ok (.putfield 28, 3) := by decide +kernel
theorem d2_37 : decode prog_46_method_1_code 37 = .ok (.return_, 1) := by decide +kernel
theorem pn_2 : plainName "com/example/muster/muster/RuleBot$Rule" = true := by first | (simp [plainName, overriddenIn]; done) | decide +kernel
theorem ef_rmC (m : MethodId) (x0 : Addr) (x1 : Addr) (x3 : Int32) (x4 : Addr) (x5 : Addr) (x6 : Int32) : entryFrame m #[(.ref x0), (.ref x1), .null, (.int x3), (.ref x4), (.ref x5), (.int x6)] 7 = mkF m 0 #[.val (.ref x0), .val (.ref x1), .val .null, .val (.int x3), .val (.ref x4), .val (.ref x5), .val (.int x6)] [] := by first | (simp [entryFrame, mkF, argsToLocals, Value.category]; done) | rfl
def QrmC (Z : State) (a1 : Addr) (nm : Addr) (qu : Int32) (tr : Addr) (fi : Addr) (tw : Int32) (h0 : Heap) (n0 : Nat) (v : Option Value) (h : Heap) (L : List Loc) : Prop := v = none ∧ Fr n0 L ∧ Keep h0 h [a1] ∧ Exa Z h a1 "com/example/muster/muster/RuleBot$Rule" ∧ Fld Z h a1 "com/example/muster/muster/RuleBot$Rule" "trains" "Lcom/example/muster/muster/StrategicAction;" (.ref tr) ∧ Fld Z h a1 "com/example/muster/muster/RuleBot$Rule" "finish" "Lcom/example/muster/muster/StrategicAction;" (.ref fi) ∧ Fld Z h a1 "com/example/muster/muster/RuleBot$Rule" "trainsWhileFinishing" "Z" (.int (nar .boolean tw))
set_option maxRecDepth 65536 in
set_option maxHeartbeats 40000000 in
theorem rmC (l : Launch) (Z : State) (a0 : Array Value) (hw : ∀ d ∈ tables_1, d.before a0 Z = true) (ws : List Jvm.Cond) (a1 : Addr) (nm : Addr) (qu : Int32) (tr : Addr) (fi : Addr) (tw : Int32) (h0 : Heap) (n0 : Nat) (Z0 : n0 ≤ h0.size) (E_o : Exa Z h0 a1 "com/example/muster/muster/RuleBot$Rule") (F_0 : Fld Z h0 a1 "com/example/muster/muster/RuleBot$Rule" "name" "Ljava/lang/String;" .null) (F_1 : Fld Z h0 a1 "com/example/muster/muster/RuleBot$Rule" "massed" "Lcom/example/muster/muster/UnitType;" .null) (F_2 : Fld Z h0 a1 "com/example/muster/muster/RuleBot$Rule" "quota" "I" (.int (0 : Int32))) (F_3 : Fld Z h0 a1 "com/example/muster/muster/RuleBot$Rule" "trains" "Lcom/example/muster/muster/StrategicAction;" .null) (F_4 : Fld Z h0 a1 "com/example/muster/muster/RuleBot$Rule" "finish" "Lcom/example/muster/muster/StrategicAction;" .null) (F_5 : Fld Z h0 a1 "com/example/muster/muster/RuleBot$Rule" "trainsWhileFinishing" "Z" (.int (0 : Int32))) (g_a1 : n0 ≤ a1) :
    MetFree l (⟨"com/example/muster/muster/RuleBot$Rule", "<init>", "(Ljava/lang/String;Lcom/example/muster/muster/UnitType;ILcom/example/muster/muster/StrategicAction;Lcom/example/muster/muster/StrategicAction;Z)V"⟩ : MethodName) (head1 (Jvm.Cond.code (⟨"com/example/muster/muster/RuleBot$Rule", "<init>", "(Ljava/lang/String;Lcom/example/muster/muster/UnitType;ILcom/example/muster/muster/StrategicAction;Lcom/example/muster/muster/StrategicAction;Z)V"⟩ : MethodName) prog_46_method_1_code 7 none :: ws) ({ frames := 2, cells := 0, slots := 0, locals := 24 } : Room)) (fun a U => a = #[(.ref a1), (.ref nm), .null, (.int qu), (.ref tr), (.ref fi), (.int tw)] ∧ Z.Warmed39 U.vm ∧ U.heap = h0) (fun _ _ _ _ _ => True) (fun _ U o U' => ∃ v L, o = .returned v ∧ QrmC Z a1 nm qu tr fi tw h0 n0 v U'.heap L ∧ FrameEnd U o U' L ({ frames := 2, cells := 0, slots := 0, locals := 24 } : Room).cells ({ frames := 2, cells := 0, slots := 0, locals := 24 } : Room).slots) := by
  refine MetFree.of_bodySF (plainFor_of_name pn_2) hisR ?_
  intro p e s m args below meth c s₁ Bd hml0 hP hK
  obtain ⟨rfl, hZ, hh⟩ := hP
  have hx := Bd.exec
  have hby := Bd.bytes
  have hml : c.maxLocals = 7 := hml0
  have hown : s.vm.findClass "com/example/muster/muster/RuleBot$Rule" = some m.cls := findClass_of_methodNamed Bd.named
  have hnm := (name_of_methodNamed Bd.named Bd.method).1
  have X0 : Stand p l e ({ frames := 2, cells := 0, slots := 0, locals := 24 } : Room) s m #[(.ref a1), (.ref nm), .null, (.int qu), (.ref tr), (.ref fi), (.int tw)] below meth c s₁ [] 0 0 := Stand.of_body Bd
  have e0 : s₁.heap = h0 := by rw [← hh, Bd.state]; rfl
  have N0 := Fr.nil n0
  have pre0 : ∀ t_, Steps p.tables e below (s₁.setTop (mkF m 0 #[.val (.ref a1), .val (.ref nm), .val .null, .val (.int qu), .val (.ref tr), .val (.ref fi), .val (.int tw)] [])) t_ → Steps p.tables e below (s₁.setTop (entryFrame m #[(.ref a1), (.ref nm), .null, (.int qu), (.ref tr), (.ref fi), (.int tw)] 7)) t_ := fun t_ k_ => castTop (ef_rmC m a1 nm qu tr fi tw) k_
  obtain ⟨_, _, ⟨T101, L101, k101, n101⟩, -, X101, ⟨Lc101, hQ101, l101, y101, z101⟩, st101⟩ := X0.specialBack hx (y := (⟨"java/lang/Record", "<init>", "()V"⟩ : MethodName)) rfl hown (mvT hZ (hw _ (List.mem_of_getElem? (i := 26) rfl))) (mvT hZ (hw _ (List.mem_of_getElem? (i := 27) rfl))) (mvT hZ (hw _ (List.mem_of_getElem? (i := 30) rfl))) (by decide) (backOf (W := 0) (rmR l Z a0 hw [] a1 h0 n0 Z0 ) hZ (hw _ (List.mem_of_getElem? (i := 30) rfl)) (hw _ (List.mem_of_getElem? (i := 29) rfl)) (by decide) (by decide)) (g := (mkF m 1 #[.val (.ref a1), .val (.ref nm), .val .null, .val (.int qu), .val (.ref tr), .val (.ref fi), .val (.int tw)] [(.ref a1)])) rfl (by rw [hml]; rfl) (Steps.refl _) (a := a1) (argsL := []) (rest := []) (lenOf pd_0 rfl) rfl (by show 2 * 0 + _ ≤ _; exact Nat.le_of_eq rfl) (hb hby d2_1) (fun _ _ => ⟨rfl, e0, (by decide : 0 + 0 ≤ _), (by decide : 0 + 0 ≤ _)⟩)
  dsimp only [Pt.U, Pt.locs, Pt.cells, Pt.slots] at X101 l101 y101 z101 st101 hQ101
  subst l101 y101 z101
  obtain ⟨rfl, N101q, e101⟩ := hQ101
  have N101 := Fr.app N0 N101q
  obtain ⟨T102, h102, X102, e102, W102, st102⟩ := putF X101 hx hZ hown (host := "") (Or.inl (hw _ (List.mem_of_getElem? (i := 34) rfl))) Via.refl e101 F_0 E_o (Or.inr ⟨(hw _ (List.mem_of_getElem? (i := 35) rfl)), rfl, hnm⟩) (hw _ (List.mem_of_getElem? (i := 13) rfl)) (ty := (.object "java/lang/String")) (by decide) rfl rfl (g := (mkF m 6 #[.val (.ref a1), .val (.ref nm), .val .null, .val (.int qu), .val (.ref tr), .val (.ref fi), .val (.int tw)] [(.ref nm), (.ref a1)])) rfl rfl (hb hby d2_6)
  have F1_103 := F_1.other W102 (Or.inr (slot_ne (Or.inr (hw _ (List.mem_of_getElem? (i := 37) rfl))) (Or.inr (hw _ (List.mem_of_getElem? (i := 35) rfl))) (by decide) (t := (.object "com/example/muster/muster/UnitType")) (t' := (.object "java/lang/String")) (by decide) (by decide)))
  have F2_104 := F_2.other W102 (Or.inr (slot_ne (Or.inr (hw _ (List.mem_of_getElem? (i := 39) rfl))) (Or.inr (hw _ (List.mem_of_getElem? (i := 35) rfl))) (by decide) (t := .int) (t' := (.object "java/lang/String")) (by decide) (by decide)))
  have F3_105 := F_3.other W102 (Or.inr (slot_ne (Or.inr (hw _ (List.mem_of_getElem? (i := 41) rfl))) (Or.inr (hw _ (List.mem_of_getElem? (i := 35) rfl))) (by decide) (t := (.object "com/example/muster/muster/StrategicAction")) (t' := (.object "java/lang/String")) (by decide) (by decide)))
  have F4_106 := F_4.other W102 (Or.inr (slot_ne (Or.inr (hw _ (List.mem_of_getElem? (i := 43) rfl))) (Or.inr (hw _ (List.mem_of_getElem? (i := 35) rfl))) (by decide) (t := (.object "com/example/muster/muster/StrategicAction")) (t' := (.object "java/lang/String")) (by decide) (by decide)))
  have F5_107 := F_5.other W102 (Or.inr (slot_ne (Or.inr (hw _ (List.mem_of_getElem? (i := 45) rfl))) (Or.inr (hw _ (List.mem_of_getElem? (i := 35) rfl))) (by decide) (t := .boolean) (t' := (.object "java/lang/String")) (by decide) (by decide)))
  have E_108 := E_o.wr W102
  have K_109 := (Keep.refl h0 [a1]).wr W102 (Or.inl (List.mem_of_getElem? (i := 0) rfl))
  have F0_110 := F_0.same W102
  have N102 := Fr.snoc X102 N101 g_a1
  have Z111 : n0 ≤ h102.size := Nat.le_trans Z0 ((Keep.of_wr W102).1)
  obtain ⟨T112, h112, X112, e112, W112, st112⟩ := putF X102 hx hZ hown (host := "") (Or.inl (hw _ (List.mem_of_getElem? (i := 36) rfl))) Via.refl e102 F1_103 E_108 (Or.inr ⟨(hw _ (List.mem_of_getElem? (i := 37) rfl)), rfl, hnm⟩) (hw _ (List.mem_of_getElem? (i := 13) rfl)) (ty := (.object "com/example/muster/muster/UnitType")) (by decide) rfl rfl (g := (mkF m 11 #[.val (.ref a1), .val (.ref nm), .val .null, .val (.int qu), .val (.ref tr), .val (.ref fi), .val (.int tw)] [.null, (.ref a1)])) rfl rfl (hb hby d2_11)
  have F0_113 := F0_110.other W112 (Or.inr (slot_ne (Or.inr (hw _ (List.mem_of_getElem? (i := 35) rfl))) (Or.inr (hw _ (List.mem_of_getElem? (i := 37) rfl))) (by decide) (t := (.object "java/lang/String")) (t' := (.object "com/example/muster/muster/UnitType")) (by decide) (by decide)))
  have F2_114 := F2_104.other W112 (Or.inr (slot_ne (Or.inr (hw _ (List.mem_of_getElem? (i := 39) rfl))) (Or.inr (hw _ (List.mem_of_getElem? (i := 37) rfl))) (by decide) (t := .int) (t' := (.object "com/example/muster/muster/UnitType")) (by decide) (by decide)))
  have F3_115 := F3_105.other W112 (Or.inr (slot_ne (Or.inr (hw _ (List.mem_of_getElem? (i := 41) rfl))) (Or.inr (hw _ (List.mem_of_getElem? (i := 37) rfl))) (by decide) (t := (.object "com/example/muster/muster/StrategicAction")) (t' := (.object "com/example/muster/muster/UnitType")) (by decide) (by decide)))
  have F4_116 := F4_106.other W112 (Or.inr (slot_ne (Or.inr (hw _ (List.mem_of_getElem? (i := 43) rfl))) (Or.inr (hw _ (List.mem_of_getElem? (i := 37) rfl))) (by decide) (t := (.object "com/example/muster/muster/StrategicAction")) (t' := (.object "com/example/muster/muster/UnitType")) (by decide) (by decide)))
  have F5_117 := F5_107.other W112 (Or.inr (slot_ne (Or.inr (hw _ (List.mem_of_getElem? (i := 45) rfl))) (Or.inr (hw _ (List.mem_of_getElem? (i := 37) rfl))) (by decide) (t := .boolean) (t' := (.object "com/example/muster/muster/UnitType")) (by decide) (by decide)))
  have E_118 := E_108.wr W112
  have K_119 := K_109.wr W112 (Or.inl (List.mem_of_getElem? (i := 0) rfl))
  have F1_120 := F1_103.same W112
  have N112 := Fr.snoc X112 N102 g_a1
  have Z121 : n0 ≤ h112.size := Nat.le_trans Z111 ((Keep.of_wr W112).1)
  obtain ⟨T122, h122, X122, e122, W122, st122⟩ := putF X112 hx hZ hown (host := "") (Or.inl (hw _ (List.mem_of_getElem? (i := 38) rfl))) Via.refl e112 F2_114 E_118 (Or.inr ⟨(hw _ (List.mem_of_getElem? (i := 39) rfl)), rfl, hnm⟩) (hw _ (List.mem_of_getElem? (i := 13) rfl)) (ty := .int) (by decide) rfl rfl (g := (mkF m 16 #[.val (.ref a1), .val (.ref nm), .val .null, .val (.int qu), .val (.ref tr), .val (.ref fi), .val (.int tw)] [(.int qu), (.ref a1)])) rfl rfl (hb hby d2_16)
  have F0_123 := F0_113.other W122 (Or.inr (slot_ne (Or.inr (hw _ (List.mem_of_getElem? (i := 35) rfl))) (Or.inr (hw _ (List.mem_of_getElem? (i := 39) rfl))) (by decide) (t := (.object "java/lang/String")) (t' := .int) (by decide) (by decide)))
  have F1_124 := F1_120.other W122 (Or.inr (slot_ne (Or.inr (hw _ (List.mem_of_getElem? (i := 37) rfl))) (Or.inr (hw _ (List.mem_of_getElem? (i := 39) rfl))) (by decide) (t := (.object "com/example/muster/muster/UnitType")) (t' := .int) (by decide) (by decide)))
  have F3_125 := F3_115.other W122 (Or.inr (slot_ne (Or.inr (hw _ (List.mem_of_getElem? (i := 41) rfl))) (Or.inr (hw _ (List.mem_of_getElem? (i := 39) rfl))) (by decide) (t := (.object "com/example/muster/muster/StrategicAction")) (t' := .int) (by decide) (by decide)))
  have F4_126 := F4_116.other W122 (Or.inr (slot_ne (Or.inr (hw _ (List.mem_of_getElem? (i := 43) rfl))) (Or.inr (hw _ (List.mem_of_getElem? (i := 39) rfl))) (by decide) (t := (.object "com/example/muster/muster/StrategicAction")) (t' := .int) (by decide) (by decide)))
  have F5_127 := F5_117.other W122 (Or.inr (slot_ne (Or.inr (hw _ (List.mem_of_getElem? (i := 45) rfl))) (Or.inr (hw _ (List.mem_of_getElem? (i := 39) rfl))) (by decide) (t := .boolean) (t' := .int) (by decide) (by decide)))
  have E_128 := E_118.wr W122
  have K_129 := K_119.wr W122 (Or.inl (List.mem_of_getElem? (i := 0) rfl))
  have F2_130 := F2_114.same W122
  have N122 := Fr.snoc X122 N112 g_a1
  have Z131 : n0 ≤ h122.size := Nat.le_trans Z121 ((Keep.of_wr W122).1)
  obtain ⟨T132, h132, X132, e132, W132, st132⟩ := putF X122 hx hZ hown (host := "") (Or.inl (hw _ (List.mem_of_getElem? (i := 40) rfl))) Via.refl e122 F3_125 E_128 (Or.inr ⟨(hw _ (List.mem_of_getElem? (i := 41) rfl)), rfl, hnm⟩) (hw _ (List.mem_of_getElem? (i := 13) rfl)) (ty := (.object "com/example/muster/muster/StrategicAction")) (by decide) rfl rfl (g := (mkF m 22 #[.val (.ref a1), .val (.ref nm), .val .null, .val (.int qu), .val (.ref tr), .val (.ref fi), .val (.int tw)] [(.ref tr), (.ref a1)])) rfl rfl (hb hby d2_22)
  have F0_133 := F0_123.other W132 (Or.inr (slot_ne (Or.inr (hw _ (List.mem_of_getElem? (i := 35) rfl))) (Or.inr (hw _ (List.mem_of_getElem? (i := 41) rfl))) (by decide) (t := (.object "java/lang/String")) (t' := (.object "com/example/muster/muster/StrategicAction")) (by decide) (by decide)))
  have F1_134 := F1_124.other W132 (Or.inr (slot_ne (Or.inr (hw _ (List.mem_of_getElem? (i := 37) rfl))) (Or.inr (hw _ (List.mem_of_getElem? (i := 41) rfl))) (by decide) (t := (.object "com/example/muster/muster/UnitType")) (t' := (.object "com/example/muster/muster/StrategicAction")) (by decide) (by decide)))
  have F2_135 := F2_130.other W132 (Or.inr (slot_ne (Or.inr (hw _ (List.mem_of_getElem? (i := 39) rfl))) (Or.inr (hw _ (List.mem_of_getElem? (i := 41) rfl))) (by decide) (t := .int) (t' := (.object "com/example/muster/muster/StrategicAction")) (by decide) (by decide)))
  have F4_136 := F4_126.other W132 (Or.inr (slot_ne (Or.inr (hw _ (List.mem_of_getElem? (i := 43) rfl))) (Or.inr (hw _ (List.mem_of_getElem? (i := 41) rfl))) (by decide) (t := (.object "com/example/muster/muster/StrategicAction")) (t' := (.object "com/example/muster/muster/StrategicAction")) (by decide) (by decide)))
  have F5_137 := F5_127.other W132 (Or.inr (slot_ne (Or.inr (hw _ (List.mem_of_getElem? (i := 45) rfl))) (Or.inr (hw _ (List.mem_of_getElem? (i := 41) rfl))) (by decide) (t := .boolean) (t' := (.object "com/example/muster/muster/StrategicAction")) (by decide) (by decide)))
  have E_138 := E_128.wr W132
  have K_139 := K_129.wr W132 (Or.inl (List.mem_of_getElem? (i := 0) rfl))
  have F3_140 := F3_125.same W132
  have N132 := Fr.snoc X132 N122 g_a1
  have Z141 : n0 ≤ h132.size := Nat.le_trans Z131 ((Keep.of_wr W132).1)
  obtain ⟨T142, h142, X142, e142, W142, st142⟩ := putF X132 hx hZ hown (host := "") (Or.inl (hw _ (List.mem_of_getElem? (i := 42) rfl))) Via.refl e132 F4_136 E_138 (Or.inr ⟨(hw _ (List.mem_of_getElem? (i := 43) rfl)), rfl, hnm⟩) (hw _ (List.mem_of_getElem? (i := 13) rfl)) (ty := (.object "com/example/muster/muster/StrategicAction")) (by decide) rfl rfl (g := (mkF m 28 #[.val (.ref a1), .val (.ref nm), .val .null, .val (.int qu), .val (.ref tr), .val (.ref fi), .val (.int tw)] [(.ref fi), (.ref a1)])) rfl rfl (hb hby d2_28)
  have F0_143 := F0_133.other W142 (Or.inr (slot_ne (Or.inr (hw _ (List.mem_of_getElem? (i := 35) rfl))) (Or.inr (hw _ (List.mem_of_getElem? (i := 43) rfl))) (by decide) (t := (.object "java/lang/String")) (t' := (.object "com/example/muster/muster/StrategicAction")) (by decide) (by decide)))
  have F1_144 := F1_134.other W142 (Or.inr (slot_ne (Or.inr (hw _ (List.mem_of_getElem? (i := 37) rfl))) (Or.inr (hw _ (List.mem_of_getElem? (i := 43) rfl))) (by decide) (t := (.object "com/example/muster/muster/UnitType")) (t' := (.object "com/example/muster/muster/StrategicAction")) (by decide) (by decide)))
  have F2_145 := F2_135.other W142 (Or.inr (slot_ne (Or.inr (hw _ (List.mem_of_getElem? (i := 39) rfl))) (Or.inr (hw _ (List.mem_of_getElem? (i := 43) rfl))) (by decide) (t := .int) (t' := (.object "com/example/muster/muster/StrategicAction")) (by decide) (by decide)))
  have F3_146 := F3_140.other W142 (Or.inr (slot_ne (Or.inr (hw _ (List.mem_of_getElem? (i := 41) rfl))) (Or.inr (hw _ (List.mem_of_getElem? (i := 43) rfl))) (by decide) (t := (.object "com/example/muster/muster/StrategicAction")) (t' := (.object "com/example/muster/muster/StrategicAction")) (by decide) (by decide)))
  have F5_147 := F5_137.other W142 (Or.inr (slot_ne (Or.inr (hw _ (List.mem_of_getElem? (i := 45) rfl))) (Or.inr (hw _ (List.mem_of_getElem? (i := 43) rfl))) (by decide) (t := .boolean) (t' := (.object "com/example/muster/muster/StrategicAction")) (by decide) (by decide)))
  have E_148 := E_138.wr W142
  have K_149 := K_139.wr W142 (Or.inl (List.mem_of_getElem? (i := 0) rfl))
  have F4_150 := F4_136.same W142
  have N142 := Fr.snoc X142 N132 g_a1
  have Z151 : n0 ≤ h142.size := Nat.le_trans Z141 ((Keep.of_wr W142).1)
  obtain ⟨T152, h152, X152, e152, W152, st152⟩ := putFN X142 hx hZ hown (hw _ (List.mem_of_getElem? (i := 44) rfl)) Via.refl e142 F5_147 E_148 (Or.inr ⟨(hw _ (List.mem_of_getElem? (i := 45) rfl)), rfl, hnm⟩) (hw _ (List.mem_of_getElem? (i := 13) rfl)) (ty := .boolean) (v' := (.int (nar .boolean tw))) (by decide) rfl (fits_nar_bool _) (g := (mkF m 34 #[.val (.ref a1), .val (.ref nm), .val .null, .val (.int qu), .val (.ref tr), .val (.ref fi), .val (.int tw)] [(.int tw), (.ref a1)])) rfl rfl (hb hby d2_34)
  have F0_153 := F0_143.other W152 (Or.inr (slot_ne (Or.inr (hw _ (List.mem_of_getElem? (i := 35) rfl))) (Or.inr (hw _ (List.mem_of_getElem? (i := 45) rfl))) (by decide) (t := (.object "java/lang/String")) (t' := .boolean) (by decide) (by decide)))
  have F1_154 := F1_144.other W152 (Or.inr (slot_ne (Or.inr (hw _ (List.mem_of_getElem? (i := 37) rfl))) (Or.inr (hw _ (List.mem_of_getElem? (i := 45) rfl))) (by decide) (t := (.object "com/example/muster/muster/UnitType")) (t' := .boolean) (by decide) (by decide)))
  have F2_155 := F2_145.other W152 (Or.inr (slot_ne (Or.inr (hw _ (List.mem_of_getElem? (i := 39) rfl))) (Or.inr (hw _ (List.mem_of_getElem? (i := 45) rfl))) (by decide) (t := .int) (t' := .boolean) (by decide) (by decide)))
  have F3_156 := F3_146.other W152 (Or.inr (slot_ne (Or.inr (hw _ (List.mem_of_getElem? (i := 41) rfl))) (Or.inr (hw _ (List.mem_of_getElem? (i := 45) rfl))) (by decide) (t := (.object "com/example/muster/muster/StrategicAction")) (t' := .boolean) (by decide) (by decide)))
  have F4_157 := F4_150.other W152 (Or.inr (slot_ne (Or.inr (hw _ (List.mem_of_getElem? (i := 43) rfl))) (Or.inr (hw _ (List.mem_of_getElem? (i := 45) rfl))) (by decide) (t := (.object "com/example/muster/muster/StrategicAction")) (t' := .boolean) (by decide) (by decide)))
  have E_158 := E_148.wr W152
  have K_159 := K_149.wr W152 (Or.inl (List.mem_of_getElem? (i := 0) rfl))
  have F5_160 := F5_147.same W152
  have N152 := Fr.snoc X152 N142 g_a1
  have Z161 : n0 ≤ h152.size := Nat.le_trans Z151 ((Keep.of_wr W152).1)
  have pre162 : ∀ t_, Steps p.tables e below (T152.setTop (mkF m 37 #[.val (.ref a1), .val (.ref nm), .val .null, .val (.int qu), .val (.ref tr), .val (.ref fi), .val (.int tw)] [])) t_ → Steps p.tables e below (s₁.setTop (entryFrame m #[(.ref a1), (.ref nm), .null, (.int qu), (.ref tr), (.ref fi), (.int tw)] 7)) t_ := fun t_ k_ => pre0 _ (by
    show Steps p.tables e below (s₁.setTop (mkF m 0 #[.val (.ref a1), .val (.ref nm), .val .null, .val (.int qu), .val (.ref tr), .val (.ref fi), .val (.int tw)] [])) _
    refine XS.aloadN X0.here hx rfl (hb hby d2_0) rfl rfl ?_
    show Steps p.tables e below (s₁.setTop (mkF m 1 #[.val (.ref a1), .val (.ref nm), .val .null, .val (.int qu), .val (.ref tr), .val (.ref fi), .val (.int tw)] [(.ref a1)])) _
    refine st101.trans ?_
    show Steps p.tables e below (T101.setTop (mkF m 4 #[.val (.ref a1), .val (.ref nm), .val .null, .val (.int qu), .val (.ref tr), .val (.ref fi), .val (.int tw)] [])) _
    refine XS.aloadN X101.here hx rfl (hb hby d2_4) rfl rfl ?_
    show Steps p.tables e below (T101.setTop (mkF m 5 #[.val (.ref a1), .val (.ref nm), .val .null, .val (.int qu), .val (.ref tr), .val (.ref fi), .val (.int tw)] [(.ref a1)])) _
    refine XS.aloadN X101.here hx rfl (hb hby d2_5) rfl rfl ?_
    show Steps p.tables e below (T101.setTop (mkF m 6 #[.val (.ref a1), .val (.ref nm), .val .null, .val (.int qu), .val (.ref tr), .val (.ref fi), .val (.int tw)] [(.ref nm), (.ref a1)])) _
    refine st102 _ ?_
    show Steps p.tables e below (T102.setTop (mkF m 9 #[.val (.ref a1), .val (.ref nm), .val .null, .val (.int qu), .val (.ref tr), .val (.ref fi), .val (.int tw)] [])) _
    refine XS.aloadN X102.here hx rfl (hb hby d2_9) rfl rfl ?_
    show Steps p.tables e below (T102.setTop (mkF m 10 #[.val (.ref a1), .val (.ref nm), .val .null, .val (.int qu), .val (.ref tr), .val (.ref fi), .val (.int tw)] [(.ref a1)])) _
    refine XS.aloadN X102.here hx rfl (hb hby d2_10) rfl rfl ?_
    show Steps p.tables e below (T102.setTop (mkF m 11 #[.val (.ref a1), .val (.ref nm), .val .null, .val (.int qu), .val (.ref tr), .val (.ref fi), .val (.int tw)] [.null, (.ref a1)])) _
    refine st112 _ ?_
    show Steps p.tables e below (T112.setTop (mkF m 14 #[.val (.ref a1), .val (.ref nm), .val .null, .val (.int qu), .val (.ref tr), .val (.ref fi), .val (.int tw)] [])) _
    refine XS.aloadN X112.here hx rfl (hb hby d2_14) rfl rfl ?_
    show Steps p.tables e below (T112.setTop (mkF m 15 #[.val (.ref a1), .val (.ref nm), .val .null, .val (.int qu), .val (.ref tr), .val (.ref fi), .val (.int tw)] [(.ref a1)])) _
    refine XS.iloadN X112.here hx rfl (hb hby d2_15) rfl ?_
    show Steps p.tables e below (T112.setTop (mkF m 16 #[.val (.ref a1), .val (.ref nm), .val .null, .val (.int qu), .val (.ref tr), .val (.ref fi), .val (.int tw)] [(.int qu), (.ref a1)])) _
    refine st122 _ ?_
    show Steps p.tables e below (T122.setTop (mkF m 19 #[.val (.ref a1), .val (.ref nm), .val .null, .val (.int qu), .val (.ref tr), .val (.ref fi), .val (.int tw)] [])) _
    refine XS.aloadN X122.here hx rfl (hb hby d2_19) rfl rfl ?_
    show Steps p.tables e below (T122.setTop (mkF m 20 #[.val (.ref a1), .val (.ref nm), .val .null, .val (.int qu), .val (.ref tr), .val (.ref fi), .val (.int tw)] [(.ref a1)])) _
    refine XS.aload X122.here hx rfl (hb hby d2_20) rfl rfl ?_
    show Steps p.tables e below (T122.setTop (mkF m 22 #[.val (.ref a1), .val (.ref nm), .val .null, .val (.int qu), .val (.ref tr), .val (.ref fi), .val (.int tw)] [(.ref tr), (.ref a1)])) _
    refine st132 _ ?_
    show Steps p.tables e below (T132.setTop (mkF m 25 #[.val (.ref a1), .val (.ref nm), .val .null, .val (.int qu), .val (.ref tr), .val (.ref fi), .val (.int tw)] [])) _
    refine XS.aloadN X132.here hx rfl (hb hby d2_25) rfl rfl ?_
    show Steps p.tables e below (T132.setTop (mkF m 26 #[.val (.ref a1), .val (.ref nm), .val .null, .val (.int qu), .val (.ref tr), .val (.ref fi), .val (.int tw)] [(.ref a1)])) _
    refine XS.aload X132.here hx rfl (hb hby d2_26) rfl rfl ?_
    show Steps p.tables e below (T132.setTop (mkF m 28 #[.val (.ref a1), .val (.ref nm), .val .null, .val (.int qu), .val (.ref tr), .val (.ref fi), .val (.int tw)] [(.ref fi), (.ref a1)])) _
    refine st142 _ ?_
    show Steps p.tables e below (T142.setTop (mkF m 31 #[.val (.ref a1), .val (.ref nm), .val .null, .val (.int qu), .val (.ref tr), .val (.ref fi), .val (.int tw)] [])) _
    refine XS.aloadN X142.here hx rfl (hb hby d2_31) rfl rfl ?_
    show Steps p.tables e below (T142.setTop (mkF m 32 #[.val (.ref a1), .val (.ref nm), .val .null, .val (.int qu), .val (.ref tr), .val (.ref fi), .val (.int tw)] [(.ref a1)])) _
    refine XS.iload X142.here hx rfl (hb hby d2_32) rfl ?_
    show Steps p.tables e below (T142.setTop (mkF m 34 #[.val (.ref a1), .val (.ref nm), .val .null, .val (.int qu), .val (.ref tr), .val (.ref fi), .val (.int tw)] [(.int tw), (.ref a1)])) _
    refine st152 _ ?_
    exact k_)
  obtain ⟨fs, hr, hrun, hended, hW, hsame⟩ := X152.leave (v := none) (fun _ => rfl)
  refine ⟨_, _, pre162 _ ?_, hrun, hended, _, _, rfl, ?_, ⟨_, rfl⟩, hW, hsame.mono (by decide) (by decide)⟩
  · show Steps p.tables e below (T152.setTop (mkF m 37 #[.val (.ref a1), .val (.ref nm), .val .null, .val (.int qu), .val (.ref tr), .val (.ref fi), .val (.int tw)] [])) _
    exact X152.returnOut hx Bd.returns (hb hby d2_37) hr
  · show QrmC Z a1 nm qu tr fi tw h0 n0 _ T152.heap _
    rw [e152]
    exact ⟨rfl, N152, K_159, E_158, F3_156, F4_157, F5_160⟩
theorem d5_0 : decode prog_46_method_3_code 0 = .ok (.aload_n 0, 1) := by decide +kernel
theorem d5_1 : decode prog_46_method_3_code 1 = .ok (.getfield 28, 3) := by decide +kernel
theorem d5_4 : decode prog_46_method_3_code 4 = .ok (.ifCond .eq 18, 3) := by decide +kernel
theorem d5_22 : decode prog_46_method_3_code 22 = .ok (.aconst_null, 1) := by decide +kernel
theorem d5_23 : decode prog_46_method_3_code 23 = .ok (.areturn, 1) := by decide +kernel
theorem ef_rmB0 (m : MethodId) (x0 : Addr) (x1 : Addr) : entryFrame m #[(.ref x0), (.ref x1)] 2 = mkF m 0 #[.val (.ref x0), .val (.ref x1)] [] := by first | (simp [entryFrame, mkF, argsToLocals, Value.category]; done) | rfl
def QrmB0 (Z : State) (a1 : Addr) (a2 : Addr) (tr : Addr) (fi : Addr) (tw : Int32) (h0 : Heap) (n0 : Nat) (v : Option Value) (h : Heap) (L : List Loc) : Prop := v = some .null ∧ Fr n0 L ∧ h = h0
set_option maxRecDepth 65536 in
set_option maxHeartbeats 40000000 in
theorem rmB0 (l : Launch) (Z : State) (a0 : Array Value) (hw : ∀ d ∈ tables_1, d.before a0 Z = true) (ws : List Jvm.Cond) (a1 : Addr) (a2 : Addr) (tr : Addr) (fi : Addr) (tw : Int32) (h0 : Heap) (n0 : Nat) (Z0 : n0 ≤ h0.size) (F3 : Fld Z h0 a1 "com/example/muster/muster/RuleBot$Rule" "trains" "Lcom/example/muster/muster/StrategicAction;" (.ref tr)) (F4 : Fld Z h0 a1 "com/example/muster/muster/RuleBot$Rule" "finish" "Lcom/example/muster/muster/StrategicAction;" (.ref fi)) (F5 : Fld Z h0 a1 "com/example/muster/muster/RuleBot$Rule" "trainsWhileFinishing" "Z" (.int tw)) (hf : tw = 0) :
    MetFree l (⟨"com/example/muster/muster/RuleBot$Rule", "besides", "(Lcom/example/muster/muster/StrategicAction;)Lcom/example/muster/muster/StrategicAction;"⟩ : MethodName) (head1 (Jvm.Cond.code (⟨"com/example/muster/muster/RuleBot$Rule", "besides", "(Lcom/example/muster/muster/StrategicAction;)Lcom/example/muster/muster/StrategicAction;"⟩ : MethodName) prog_46_method_3_code 2 (some (.object "com/example/muster/muster/StrategicAction")) :: ws) ({ frames := 0, cells := 0, slots := 0, locals := 0 } : Room)) (fun a U => a = #[(.ref a1), (.ref a2)] ∧ Z.Warmed39 U.vm ∧ U.heap = h0) (fun _ _ _ _ _ => True) (fun _ U o U' => ∃ v L, o = .returned v ∧ QrmB0 Z a1 a2 tr fi tw h0 n0 v U'.heap L ∧ FrameEnd U o U' L ({ frames := 0, cells := 0, slots := 0, locals := 0 } : Room).cells ({ frames := 0, cells := 0, slots := 0, locals := 0 } : Room).slots) := by
  refine MetFree.of_bodySF (plainFor_of_name pn_2) hisR ?_
  intro p e s m args below meth c s₁ Bd hml0 hP hK
  obtain ⟨rfl, hZ, hh⟩ := hP
  have hx := Bd.exec
  have hby := Bd.bytes
  have hml : c.maxLocals = 2 := hml0
  have hown : s.vm.findClass "com/example/muster/muster/RuleBot$Rule" = some m.cls := findClass_of_methodNamed Bd.named
  have hnm := (name_of_methodNamed Bd.named Bd.method).1
  have X0 : Stand p l e ({ frames := 0, cells := 0, slots := 0, locals := 0 } : Room) s m #[(.ref a1), (.ref a2)] below meth c s₁ [] 0 0 := Stand.of_body Bd
  have e0 : s₁.heap = h0 := by rw [← hh, Bd.state]; rfl
  have N0 := Fr.nil n0
  have pre0 : ∀ t_, Steps p.tables e below (s₁.setTop (mkF m 0 #[.val (.ref a1), .val (.ref a2)] [])) t_ → Steps p.tables e below (s₁.setTop (entryFrame m #[(.ref a1), (.ref a2)] 2)) t_ := fun t_ k_ => castTop (ef_rmB0 m a1 a2) k_
  obtain ⟨T101, X101, e101, st101⟩ := getF X0 hx hZ hown (host := "") (Or.inl (hw _ (List.mem_of_getElem? (i := 44) rfl))) Via.refl e0 F5 (g := (mkF m 1 #[.val (.ref a1), .val (.ref a2)] [(.ref a1)])) rfl rfl (hb hby d5_1)
  have pre102 : ∀ t_, Steps p.tables e below (T101.setTop (mkF m 23 #[.val (.ref a1), .val (.ref a2)] [.null])) t_ → Steps p.tables e below (s₁.setTop (entryFrame m #[(.ref a1), (.ref a2)] 2)) t_ := fun t_ k_ => pre0 _ (by
    show Steps p.tables e below (s₁.setTop (mkF m 0 #[.val (.ref a1), .val (.ref a2)] [])) _
    refine XS.aloadN X0.here hx rfl (hb hby d5_0) rfl rfl ?_
    show Steps p.tables e below (s₁.setTop (mkF m 1 #[.val (.ref a1), .val (.ref a2)] [(.ref a1)])) _
    refine st101 _ ?_
    show Steps p.tables e below (T101.setTop (mkF m 4 #[.val (.ref a1), .val (.ref a2)] [(.int tw)])) _
    refine XS.ifYes X101.here hx rfl (pc0 := 4) (pc' := 22) rfl (hb hby d5_4) rfl ((if0 _ _).trans (teq hf).1) (by decide) (by decide) ?_
    show Steps p.tables e below (T101.setTop (mkF m 22 #[.val (.ref a1), .val (.ref a2)] [])) _
    refine XS.aconstNull X101.here hx rfl (hb hby d5_22) ?_
    exact k_)
  obtain ⟨fs, hr, hrun, hended, hW, hsame⟩ := X101.leave (v := some .null) (fun h => by rw [Bd.returns] at h; cases h)
  refine ⟨_, _, pre102 _ ?_, hrun, hended, _, _, rfl, ?_, ⟨_, rfl⟩, hW, hsame.mono (by decide) (by decide)⟩
  · show Steps p.tables e below (T101.setTop (mkF m 23 #[.val (.ref a1), .val (.ref a2)] [.null])) _
    jvm_step X101.here [X101.here.top, hx, (hb hby d5_23), X101.method', Bd.returns, Value.isRef, FieldType.isReference]
    first | (intro acts; rw [hr _ acts rfl rfl rfl]) | rw [hr _ _ rfl rfl rfl]
    exact Steps.refl _
  · show QrmB0 Z a1 a2 tr fi tw h0 n0 _ T101.heap _
    rw [e101]
    exact ⟨rfl, N0, rfl⟩
theorem d5_7 : decode prog_46_method_3_code 7 = .ok (.aload_n 1, 1) := by decide +kernel
theorem d5_8 : decode prog_46_method_3_code 8 = .ok (.aload_n 0, 1) := by decide +kernel
theorem d5_9 : decode prog_46_method_3_code 9 = .ok (.getfield 25, 3) := by decide +kernel
theorem d5_12 : decode prog_46_method_3_code 12 = .ok (.if_acmp .ne 10, 3) := by decide +kernel
theorem d5_15 : decode prog_46_method_3_code 15 = .ok (.aload_n 0, 1) := by decide +kernel
theorem d5_16 : decode prog_46_method_3_code 16 = .ok (.getfield 21, 3) := by decide +kernel
theorem d5_19 : decode prog_46_method_3_code 19 = .ok (.goto 4, 3) := by decide +kernel
theorem ef_rmB1 (m : MethodId) (x0 : Addr) (x1 : Addr) : entryFrame m #[(.ref x0), (.ref x1)] 2 = mkF m 0 #[.val (.ref x0), .val (.ref x1)] [] := by first | (simp [entryFrame, mkF, argsToLocals, Value.category]; done) | rfl
def QrmB1 (Z : State) (a1 : Addr) (a2 : Addr) (tr : Addr) (fi : Addr) (tw : Int32) (h0 : Heap) (n0 : Nat) (v : Option Value) (h : Heap) (L : List Loc) : Prop := v = some (.ref tr) ∧ Fr n0 L ∧ h = h0
set_option maxRecDepth 65536 in
set_option maxHeartbeats 40000000 in
theorem rmB1 (l : Launch) (Z : State) (a0 : Array Value) (hw : ∀ d ∈ tables_1, d.before a0 Z = true) (ws : List Jvm.Cond) (a1 : Addr) (a2 : Addr) (tr : Addr) (fi : Addr) (tw : Int32) (h0 : Heap) (n0 : Nat) (Z0 : n0 ≤ h0.size) (F3 : Fld Z h0 a1 "com/example/muster/muster/RuleBot$Rule" "trains" "Lcom/example/muster/muster/StrategicAction;" (.ref tr)) (F4 : Fld Z h0 a1 "com/example/muster/muster/RuleBot$Rule" "finish" "Lcom/example/muster/muster/StrategicAction;" (.ref fi)) (F5 : Fld Z h0 a1 "com/example/muster/muster/RuleBot$Rule" "trainsWhileFinishing" "Z" (.int tw)) (hf : ¬ tw = 0) (hs : a2 = fi) :
    MetFree l (⟨"com/example/muster/muster/RuleBot$Rule", "besides", "(Lcom/example/muster/muster/StrategicAction;)Lcom/example/muster/muster/StrategicAction;"⟩ : MethodName) (head1 (Jvm.Cond.code (⟨"com/example/muster/muster/RuleBot$Rule", "besides", "(Lcom/example/muster/muster/StrategicAction;)Lcom/example/muster/muster/StrategicAction;"⟩ : MethodName) prog_46_method_3_code 2 (some (.object "com/example/muster/muster/StrategicAction")) :: ws) ({ frames := 0, cells := 0, slots := 0, locals := 0 } : Room)) (fun a U => a = #[(.ref a1), (.ref a2)] ∧ Z.Warmed39 U.vm ∧ U.heap = h0) (fun _ _ _ _ _ => True) (fun _ U o U' => ∃ v L, o = .returned v ∧ QrmB1 Z a1 a2 tr fi tw h0 n0 v U'.heap L ∧ FrameEnd U o U' L ({ frames := 0, cells := 0, slots := 0, locals := 0 } : Room).cells ({ frames := 0, cells := 0, slots := 0, locals := 0 } : Room).slots) := by
  refine MetFree.of_bodySF (plainFor_of_name pn_2) hisR ?_
  intro p e s m args below meth c s₁ Bd hml0 hP hK
  obtain ⟨rfl, hZ, hh⟩ := hP
  have hx := Bd.exec
  have hby := Bd.bytes
  have hml : c.maxLocals = 2 := hml0
  have hown : s.vm.findClass "com/example/muster/muster/RuleBot$Rule" = some m.cls := findClass_of_methodNamed Bd.named
  have hnm := (name_of_methodNamed Bd.named Bd.method).1
  have X0 : Stand p l e ({ frames := 0, cells := 0, slots := 0, locals := 0 } : Room) s m #[(.ref a1), (.ref a2)] below meth c s₁ [] 0 0 := Stand.of_body Bd
  have e0 : s₁.heap = h0 := by rw [← hh, Bd.state]; rfl
  have N0 := Fr.nil n0
  have pre0 : ∀ t_, Steps p.tables e below (s₁.setTop (mkF m 0 #[.val (.ref a1), .val (.ref a2)] [])) t_ → Steps p.tables e below (s₁.setTop (entryFrame m #[(.ref a1), (.ref a2)] 2)) t_ := fun t_ k_ => castTop (ef_rmB1 m a1 a2) k_
  obtain ⟨T101, X101, e101, st101⟩ := getF X0 hx hZ hown (host := "") (Or.inl (hw _ (List.mem_of_getElem? (i := 44) rfl))) Via.refl e0 F5 (g := (mkF m 1 #[.val (.ref a1), .val (.ref a2)] [(.ref a1)])) rfl rfl (hb hby d5_1)
  obtain ⟨T102, X102, e102, st102⟩ := getF X101 hx hZ hown (host := "") (Or.inl (hw _ (List.mem_of_getElem? (i := 42) rfl))) Via.refl e101 F4 (g := (mkF m 9 #[.val (.ref a1), .val (.ref a2)] [(.ref a1), (.ref a2)])) rfl rfl (hb hby d5_9)
  obtain ⟨T103, X103, e103, st103⟩ := getF X102 hx hZ hown (host := "") (Or.inl (hw _ (List.mem_of_getElem? (i := 40) rfl))) Via.refl e102 F3 (g := (mkF m 16 #[.val (.ref a1), .val (.ref a2)] [(.ref a1)])) rfl rfl (hb hby d5_16)
  have pre104 : ∀ t_, Steps p.tables e below (T103.setTop (mkF m 23 #[.val (.ref a1), .val (.ref a2)] [(.ref tr)])) t_ → Steps p.tables e below (s₁.setTop (entryFrame m #[(.ref a1), (.ref a2)] 2)) t_ := fun t_ k_ => pre0 _ (by
    show Steps p.tables e below (s₁.setTop (mkF m 0 #[.val (.ref a1), .val (.ref a2)] [])) _
    refine XS.aloadN X0.here hx rfl (hb hby d5_0) rfl rfl ?_
    show Steps p.tables e below (s₁.setTop (mkF m 1 #[.val (.ref a1), .val (.ref a2)] [(.ref a1)])) _
    refine st101 _ ?_
    show Steps p.tables e below (T101.setTop (mkF m 4 #[.val (.ref a1), .val (.ref a2)] [(.int tw)])) _
    refine XS.ifNo X101.here hx rfl (hb hby d5_4) rfl ((if0 _ _).trans (feq hf).1) ?_
    show Steps p.tables e below (T101.setTop (mkF m 7 #[.val (.ref a1), .val (.ref a2)] [])) _
    refine XS.aloadN X101.here hx rfl (hb hby d5_7) rfl rfl ?_
    show Steps p.tables e below (T101.setTop (mkF m 8 #[.val (.ref a1), .val (.ref a2)] [(.ref a2)])) _
    refine XS.aloadN X101.here hx rfl (hb hby d5_8) rfl rfl ?_
    show Steps p.tables e below (T101.setTop (mkF m 9 #[.val (.ref a1), .val (.ref a2)] [(.ref a1), (.ref a2)])) _
    refine st102 _ ?_
    show Steps p.tables e below (T102.setTop (mkF m 12 #[.val (.ref a1), .val (.ref a2)] [(.ref fi), (.ref a2)])) _
    refine Jvm.RoadKit.acmp (g := (mkF m 12 #[.val (.ref a1), .val (.ref a2)] [(.ref fi), (.ref a2)])) X102 hx rfl rfl rfl (pc0 := 12) (pc' := 15) (same := true) rfl (hb hby d5_12) rfl (decide_eq_true (congrArg Value.ref hs)) (by decide) (by decide) ?_
    show Steps p.tables e below (T102.setTop (mkF m 15 #[.val (.ref a1), .val (.ref a2)] [])) _
    refine XS.aloadN X102.here hx rfl (hb hby d5_15) rfl rfl ?_
    show Steps p.tables e below (T102.setTop (mkF m 16 #[.val (.ref a1), .val (.ref a2)] [(.ref a1)])) _
    refine st103 _ ?_
    show Steps p.tables e below (T103.setTop (mkF m 19 #[.val (.ref a1), .val (.ref a2)] [(.ref tr)])) _
    refine XS.goto X103.here hx rfl (pc0 := 19) (pc' := 23) rfl (hb hby d5_19) (by decide) (by decide) ?_
    exact k_)
  obtain ⟨fs, hr, hrun, hended, hW, hsame⟩ := X103.leave (v := some (.ref tr)) (fun h => by rw [Bd.returns] at h; cases h)
  refine ⟨_, _, pre104 _ ?_, hrun, hended, _, _, rfl, ?_, ⟨_, rfl⟩, hW, hsame.mono (by decide) (by decide)⟩
  · show Steps p.tables e below (T103.setTop (mkF m 23 #[.val (.ref a1), .val (.ref a2)] [(.ref tr)])) _
    jvm_step X103.here [X103.here.top, hx, (hb hby d5_23), X103.method', Bd.returns, Value.isRef, FieldType.isReference]
    first | (intro acts; rw [hr _ acts rfl rfl rfl]) | rw [hr _ _ rfl rfl rfl]
    exact Steps.refl _
  · show QrmB1 Z a1 a2 tr fi tw h0 n0 _ T103.heap _
    rw [e103]
    exact ⟨rfl, N0, rfl⟩
theorem ef_rmB2 (m : MethodId) (x0 : Addr) (x1 : Addr) : entryFrame m #[(.ref x0), (.ref x1)] 2 = mkF m 0 #[.val (.ref x0), .val (.ref x1)] [] := by first | (simp [entryFrame, mkF, argsToLocals, Value.category]; done) | rfl
def QrmB2 (Z : State) (a1 : Addr) (a2 : Addr) (tr : Addr) (fi : Addr) (tw : Int32) (h0 : Heap) (n0 : Nat) (v : Option Value) (h : Heap) (L : List Loc) : Prop := v = some .null ∧ Fr n0 L ∧ h = h0
set_option maxRecDepth 65536 in
set_option maxHeartbeats 40000000 in
theorem rmB2 (l : Launch) (Z : State) (a0 : Array Value) (hw : ∀ d ∈ tables_1, d.before a0 Z = true) (ws : List Jvm.Cond) (a1 : Addr) (a2 : Addr) (tr : Addr) (fi : Addr) (tw : Int32) (h0 : Heap) (n0 : Nat) (Z0 : n0 ≤ h0.size) (F3 : Fld Z h0 a1 "com/example/muster/muster/RuleBot$Rule" "trains" "Lcom/example/muster/muster/StrategicAction;" (.ref tr)) (F4 : Fld Z h0 a1 "com/example/muster/muster/RuleBot$Rule" "finish" "Lcom/example/muster/muster/StrategicAction;" (.ref fi)) (F5 : Fld Z h0 a1 "com/example/muster/muster/RuleBot$Rule" "trainsWhileFinishing" "Z" (.int tw)) (hf : ¬ tw = 0) (hs : ¬ a2 = fi) :
    MetFree l (⟨"com/example/muster/muster/RuleBot$Rule", "besides", "(Lcom/example/muster/muster/StrategicAction;)Lcom/example/muster/muster/StrategicAction;"⟩ : MethodName) (head1 (Jvm.Cond.code (⟨"com/example/muster/muster/RuleBot$Rule", "besides", "(Lcom/example/muster/muster/StrategicAction;)Lcom/example/muster/muster/StrategicAction;"⟩ : MethodName) prog_46_method_3_code 2 (some (.object "com/example/muster/muster/StrategicAction")) :: ws) ({ frames := 0, cells := 0, slots := 0, locals := 0 } : Room)) (fun a U => a = #[(.ref a1), (.ref a2)] ∧ Z.Warmed39 U.vm ∧ U.heap = h0) (fun _ _ _ _ _ => True) (fun _ U o U' => ∃ v L, o = .returned v ∧ QrmB2 Z a1 a2 tr fi tw h0 n0 v U'.heap L ∧ FrameEnd U o U' L ({ frames := 0, cells := 0, slots := 0, locals := 0 } : Room).cells ({ frames := 0, cells := 0, slots := 0, locals := 0 } : Room).slots) := by
  refine MetFree.of_bodySF (plainFor_of_name pn_2) hisR ?_
  intro p e s m args below meth c s₁ Bd hml0 hP hK
  obtain ⟨rfl, hZ, hh⟩ := hP
  have hx := Bd.exec
  have hby := Bd.bytes
  have hml : c.maxLocals = 2 := hml0
  have hown : s.vm.findClass "com/example/muster/muster/RuleBot$Rule" = some m.cls := findClass_of_methodNamed Bd.named
  have hnm := (name_of_methodNamed Bd.named Bd.method).1
  have X0 : Stand p l e ({ frames := 0, cells := 0, slots := 0, locals := 0 } : Room) s m #[(.ref a1), (.ref a2)] below meth c s₁ [] 0 0 := Stand.of_body Bd
  have e0 : s₁.heap = h0 := by rw [← hh, Bd.state]; rfl
  have N0 := Fr.nil n0
  have pre0 : ∀ t_, Steps p.tables e below (s₁.setTop (mkF m 0 #[.val (.ref a1), .val (.ref a2)] [])) t_ → Steps p.tables e below (s₁.setTop (entryFrame m #[(.ref a1), (.ref a2)] 2)) t_ := fun t_ k_ => castTop (ef_rmB2 m a1 a2) k_
  obtain ⟨T101, X101, e101, st101⟩ := getF X0 hx hZ hown (host := "") (Or.inl (hw _ (List.mem_of_getElem? (i := 44) rfl))) Via.refl e0 F5 (g := (mkF m 1 #[.val (.ref a1), .val (.ref a2)] [(.ref a1)])) rfl rfl (hb hby d5_1)
  obtain ⟨T102, X102, e102, st102⟩ := getF X101 hx hZ hown (host := "") (Or.inl (hw _ (List.mem_of_getElem? (i := 42) rfl))) Via.refl e101 F4 (g := (mkF m 9 #[.val (.ref a1), .val (.ref a2)] [(.ref a1), (.ref a2)])) rfl rfl (hb hby d5_9)
  have pre103 : ∀ t_, Steps p.tables e below (T102.setTop (mkF m 23 #[.val (.ref a1), .val (.ref a2)] [.null])) t_ → Steps p.tables e below (s₁.setTop (entryFrame m #[(.ref a1), (.ref a2)] 2)) t_ := fun t_ k_ => pre0 _ (by
    show Steps p.tables e below (s₁.setTop (mkF m 0 #[.val (.ref a1), .val (.ref a2)] [])) _
    refine XS.aloadN X0.here hx rfl (hb hby d5_0) rfl rfl ?_
    show Steps p.tables e below (s₁.setTop (mkF m 1 #[.val (.ref a1), .val (.ref a2)] [(.ref a1)])) _
    refine st101 _ ?_
    show Steps p.tables e below (T101.setTop (mkF m 4 #[.val (.ref a1), .val (.ref a2)] [(.int tw)])) _
    refine XS.ifNo X101.here hx rfl (hb hby d5_4) rfl ((if0 _ _).trans (feq hf).1) ?_
    show Steps p.tables e below (T101.setTop (mkF m 7 #[.val (.ref a1), .val (.ref a2)] [])) _
    refine XS.aloadN X101.here hx rfl (hb hby d5_7) rfl rfl ?_
    show Steps p.tables e below (T101.setTop (mkF m 8 #[.val (.ref a1), .val (.ref a2)] [(.ref a2)])) _
    refine XS.aloadN X101.here hx rfl (hb hby d5_8) rfl rfl ?_
    show Steps p.tables e below (T101.setTop (mkF m 9 #[.val (.ref a1), .val (.ref a2)] [(.ref a1), (.ref a2)])) _
    refine st102 _ ?_
    show Steps p.tables e below (T102.setTop (mkF m 12 #[.val (.ref a1), .val (.ref a2)] [(.ref fi), (.ref a2)])) _
    refine Jvm.RoadKit.acmp (g := (mkF m 12 #[.val (.ref a1), .val (.ref a2)] [(.ref fi), (.ref a2)])) X102 hx rfl rfl rfl (pc0 := 12) (pc' := 22) (same := false) rfl (hb hby d5_12) rfl (decide_eq_false fun q => hs (Value.ref.inj q)) (by decide) (by decide) ?_
    show Steps p.tables e below (T102.setTop (mkF m 22 #[.val (.ref a1), .val (.ref a2)] [])) _
    refine XS.aconstNull X102.here hx rfl (hb hby d5_22) ?_
    exact k_)
  obtain ⟨fs, hr, hrun, hended, hW, hsame⟩ := X102.leave (v := some .null) (fun h => by rw [Bd.returns] at h; cases h)
  refine ⟨_, _, pre103 _ ?_, hrun, hended, _, _, rfl, ?_, ⟨_, rfl⟩, hW, hsame.mono (by decide) (by decide)⟩
  · show Steps p.tables e below (T102.setTop (mkF m 23 #[.val (.ref a1), .val (.ref a2)] [.null])) _
    jvm_step X102.here [X102.here.top, hx, (hb hby d5_23), X102.method', Bd.returns, Value.isRef, FieldType.isReference]
    first | (intro acts; rw [hr _ acts rfl rfl rfl]) | rw [hr _ _ rfl rfl rfl]
    exact Steps.refl _
  · show QrmB2 Z a1 a2 tr fi tw h0 n0 _ T102.heap _
    rw [e102]
    exact ⟨rfl, N0, rfl⟩
theorem ef_rmB3 (m : MethodId) (x0 : Addr) : entryFrame m #[(.ref x0), .null] 2 = mkF m 0 #[.val (.ref x0), .val .null] [] := by first | (simp [entryFrame, mkF, argsToLocals, Value.category]; done) | rfl
def QrmB3 (Z : State) (a1 : Addr) (tr : Addr) (fi : Addr) (tw : Int32) (h0 : Heap) (n0 : Nat) (v : Option Value) (h : Heap) (L : List Loc) : Prop := v = some .null ∧ Fr n0 L ∧ h = h0
set_option maxRecDepth 65536 in
set_option maxHeartbeats 40000000 in
theorem rmB3 (l : Launch) (Z : State) (a0 : Array Value) (hw : ∀ d ∈ tables_1, d.before a0 Z = true) (ws : List Jvm.Cond) (a1 : Addr) (tr : Addr) (fi : Addr) (tw : Int32) (h0 : Heap) (n0 : Nat) (Z0 : n0 ≤ h0.size) (F3 : Fld Z h0 a1 "com/example/muster/muster/RuleBot$Rule" "trains" "Lcom/example/muster/muster/StrategicAction;" (.ref tr)) (F4 : Fld Z h0 a1 "com/example/muster/muster/RuleBot$Rule" "finish" "Lcom/example/muster/muster/StrategicAction;" (.ref fi)) (F5 : Fld Z h0 a1 "com/example/muster/muster/RuleBot$Rule" "trainsWhileFinishing" "Z" (.int tw)) (hf : tw = 0) :
    MetFree l (⟨"com/example/muster/muster/RuleBot$Rule", "besides", "(Lcom/example/muster/muster/StrategicAction;)Lcom/example/muster/muster/StrategicAction;"⟩ : MethodName) (head1 (Jvm.Cond.code (⟨"com/example/muster/muster/RuleBot$Rule", "besides", "(Lcom/example/muster/muster/StrategicAction;)Lcom/example/muster/muster/StrategicAction;"⟩ : MethodName) prog_46_method_3_code 2 (some (.object "com/example/muster/muster/StrategicAction")) :: ws) ({ frames := 0, cells := 0, slots := 0, locals := 0 } : Room)) (fun a U => a = #[(.ref a1), .null] ∧ Z.Warmed39 U.vm ∧ U.heap = h0) (fun _ _ _ _ _ => True) (fun _ U o U' => ∃ v L, o = .returned v ∧ QrmB3 Z a1 tr fi tw h0 n0 v U'.heap L ∧ FrameEnd U o U' L ({ frames := 0, cells := 0, slots := 0, locals := 0 } : Room).cells ({ frames := 0, cells := 0, slots := 0, locals := 0 } : Room).slots) := by
  refine MetFree.of_bodySF (plainFor_of_name pn_2) hisR ?_
  intro p e s m args below meth c s₁ Bd hml0 hP hK
  obtain ⟨rfl, hZ, hh⟩ := hP
  have hx := Bd.exec
  have hby := Bd.bytes
  have hml : c.maxLocals = 2 := hml0
  have hown : s.vm.findClass "com/example/muster/muster/RuleBot$Rule" = some m.cls := findClass_of_methodNamed Bd.named
  have hnm := (name_of_methodNamed Bd.named Bd.method).1
  have X0 : Stand p l e ({ frames := 0, cells := 0, slots := 0, locals := 0 } : Room) s m #[(.ref a1), .null] below meth c s₁ [] 0 0 := Stand.of_body Bd
  have e0 : s₁.heap = h0 := by rw [← hh, Bd.state]; rfl
  have N0 := Fr.nil n0
  have pre0 : ∀ t_, Steps p.tables e below (s₁.setTop (mkF m 0 #[.val (.ref a1), .val .null] [])) t_ → Steps p.tables e below (s₁.setTop (entryFrame m #[(.ref a1), .null] 2)) t_ := fun t_ k_ => castTop (ef_rmB3 m a1) k_
  obtain ⟨T101, X101, e101, st101⟩ := getF X0 hx hZ hown (host := "") (Or.inl (hw _ (List.mem_of_getElem? (i := 44) rfl))) Via.refl e0 F5 (g := (mkF m 1 #[.val (.ref a1), .val .null] [(.ref a1)])) rfl rfl (hb hby d5_1)
  have pre102 : ∀ t_, Steps p.tables e below (T101.setTop (mkF m 23 #[.val (.ref a1), .val .null] [.null])) t_ → Steps p.tables e below (s₁.setTop (entryFrame m #[(.ref a1), .null] 2)) t_ := fun t_ k_ => pre0 _ (by
    show Steps p.tables e below (s₁.setTop (mkF m 0 #[.val (.ref a1), .val .null] [])) _
    refine XS.aloadN X0.here hx rfl (hb hby d5_0) rfl rfl ?_
    show Steps p.tables e below (s₁.setTop (mkF m 1 #[.val (.ref a1), .val .null] [(.ref a1)])) _
    refine st101 _ ?_
    show Steps p.tables e below (T101.setTop (mkF m 4 #[.val (.ref a1), .val .null] [(.int tw)])) _
    refine XS.ifYes X101.here hx rfl (pc0 := 4) (pc' := 22) rfl (hb hby d5_4) rfl ((if0 _ _).trans (teq hf).1) (by decide) (by decide) ?_
    show Steps p.tables e below (T101.setTop (mkF m 22 #[.val (.ref a1), .val .null] [])) _
    refine XS.aconstNull X101.here hx rfl (hb hby d5_22) ?_
    exact k_)
  obtain ⟨fs, hr, hrun, hended, hW, hsame⟩ := X101.leave (v := some .null) (fun h => by rw [Bd.returns] at h; cases h)
  refine ⟨_, _, pre102 _ ?_, hrun, hended, _, _, rfl, ?_, ⟨_, rfl⟩, hW, hsame.mono (by decide) (by decide)⟩
  · show Steps p.tables e below (T101.setTop (mkF m 23 #[.val (.ref a1), .val .null] [.null])) _
    jvm_step X101.here [X101.here.top, hx, (hb hby d5_23), X101.method', Bd.returns, Value.isRef, FieldType.isReference]
    first | (intro acts; rw [hr _ acts rfl rfl rfl]) | rw [hr _ _ rfl rfl rfl]
    exact Steps.refl _
  · show QrmB3 Z a1 tr fi tw h0 n0 _ T101.heap _
    rw [e101]
    exact ⟨rfl, N0, rfl⟩
theorem ef_rmB4 (m : MethodId) (x0 : Addr) : entryFrame m #[(.ref x0), .null] 2 = mkF m 0 #[.val (.ref x0), .val .null] [] := by first | (simp [entryFrame, mkF, argsToLocals, Value.category]; done) | rfl
def QrmB4 (Z : State) (a1 : Addr) (tr : Addr) (fi : Addr) (tw : Int32) (h0 : Heap) (n0 : Nat) (v : Option Value) (h : Heap) (L : List Loc) : Prop := v = some .null ∧ Fr n0 L ∧ h = h0
set_option maxRecDepth 65536 in
set_option maxHeartbeats 40000000 in
theorem rmB4 (l : Launch) (Z : State) (a0 : Array Value) (hw : ∀ d ∈ tables_1, d.before a0 Z = true) (ws : List Jvm.Cond) (a1 : Addr) (tr : Addr) (fi : Addr) (tw : Int32) (h0 : Heap) (n0 : Nat) (Z0 : n0 ≤ h0.size) (F3 : Fld Z h0 a1 "com/example/muster/muster/RuleBot$Rule" "trains" "Lcom/example/muster/muster/StrategicAction;" (.ref tr)) (F4 : Fld Z h0 a1 "com/example/muster/muster/RuleBot$Rule" "finish" "Lcom/example/muster/muster/StrategicAction;" (.ref fi)) (F5 : Fld Z h0 a1 "com/example/muster/muster/RuleBot$Rule" "trainsWhileFinishing" "Z" (.int tw)) (hf : ¬ tw = 0) :
    MetFree l (⟨"com/example/muster/muster/RuleBot$Rule", "besides", "(Lcom/example/muster/muster/StrategicAction;)Lcom/example/muster/muster/StrategicAction;"⟩ : MethodName) (head1 (Jvm.Cond.code (⟨"com/example/muster/muster/RuleBot$Rule", "besides", "(Lcom/example/muster/muster/StrategicAction;)Lcom/example/muster/muster/StrategicAction;"⟩ : MethodName) prog_46_method_3_code 2 (some (.object "com/example/muster/muster/StrategicAction")) :: ws) ({ frames := 0, cells := 0, slots := 0, locals := 0 } : Room)) (fun a U => a = #[(.ref a1), .null] ∧ Z.Warmed39 U.vm ∧ U.heap = h0) (fun _ _ _ _ _ => True) (fun _ U o U' => ∃ v L, o = .returned v ∧ QrmB4 Z a1 tr fi tw h0 n0 v U'.heap L ∧ FrameEnd U o U' L ({ frames := 0, cells := 0, slots := 0, locals := 0 } : Room).cells ({ frames := 0, cells := 0, slots := 0, locals := 0 } : Room).slots) := by
  refine MetFree.of_bodySF (plainFor_of_name pn_2) hisR ?_
  intro p e s m args below meth c s₁ Bd hml0 hP hK
  obtain ⟨rfl, hZ, hh⟩ := hP
  have hx := Bd.exec
  have hby := Bd.bytes
  have hml : c.maxLocals = 2 := hml0
  have hown : s.vm.findClass "com/example/muster/muster/RuleBot$Rule" = some m.cls := findClass_of_methodNamed Bd.named
  have hnm := (name_of_methodNamed Bd.named Bd.method).1
  have X0 : Stand p l e ({ frames := 0, cells := 0, slots := 0, locals := 0 } : Room) s m #[(.ref a1), .null] below meth c s₁ [] 0 0 := Stand.of_body Bd
  have e0 : s₁.heap = h0 := by rw [← hh, Bd.state]; rfl
  have N0 := Fr.nil n0
  have pre0 : ∀ t_, Steps p.tables e below (s₁.setTop (mkF m 0 #[.val (.ref a1), .val .null] [])) t_ → Steps p.tables e below (s₁.setTop (entryFrame m #[(.ref a1), .null] 2)) t_ := fun t_ k_ => castTop (ef_rmB4 m a1) k_
  obtain ⟨T101, X101, e101, st101⟩ := getF X0 hx hZ hown (host := "") (Or.inl (hw _ (List.mem_of_getElem? (i := 44) rfl))) Via.refl e0 F5 (g := (mkF m 1 #[.val (.ref a1), .val .null] [(.ref a1)])) rfl rfl (hb hby d5_1)
  obtain ⟨T102, X102, e102, st102⟩ := getF X101 hx hZ hown (host := "") (Or.inl (hw _ (List.mem_of_getElem? (i := 42) rfl))) Via.refl e101 F4 (g := (mkF m 9 #[.val (.ref a1), .val .null] [(.ref a1), .null])) rfl rfl (hb hby d5_9)
  have pre103 : ∀ t_, Steps p.tables e below (T102.setTop (mkF m 23 #[.val (.ref a1), .val .null] [.null])) t_ → Steps p.tables e below (s₁.setTop (entryFrame m #[(.ref a1), .null] 2)) t_ := fun t_ k_ => pre0 _ (by
    show Steps p.tables e below (s₁.setTop (mkF m 0 #[.val (.ref a1), .val .null] [])) _
    refine XS.aloadN X0.here hx rfl (hb hby d5_0) rfl rfl ?_
    show Steps p.tables e below (s₁.setTop (mkF m 1 #[.val (.ref a1), .val .null] [(.ref a1)])) _
    refine st101 _ ?_
    show Steps p.tables e below (T101.setTop (mkF m 4 #[.val (.ref a1), .val .null] [(.int tw)])) _
    refine XS.ifNo X101.here hx rfl (hb hby d5_4) rfl ((if0 _ _).trans (feq hf).1) ?_
    show Steps p.tables e below (T101.setTop (mkF m 7 #[.val (.ref a1), .val .null] [])) _
    refine XS.aloadN X101.here hx rfl (hb hby d5_7) rfl rfl ?_
    show Steps p.tables e below (T101.setTop (mkF m 8 #[.val (.ref a1), .val .null] [.null])) _
    refine XS.aloadN X101.here hx rfl (hb hby d5_8) rfl rfl ?_
    show Steps p.tables e below (T101.setTop (mkF m 9 #[.val (.ref a1), .val .null] [(.ref a1), .null])) _
    refine st102 _ ?_
    show Steps p.tables e below (T102.setTop (mkF m 12 #[.val (.ref a1), .val .null] [(.ref fi), .null])) _
    refine Jvm.RoadKit.acmp (g := (mkF m 12 #[.val (.ref a1), .val .null] [(.ref fi), .null])) X102 hx rfl rfl rfl (pc0 := 12) (pc' := 22) (same := false) rfl (hb hby d5_12) rfl (decide_eq_false nofun) (by decide) (by decide) ?_
    show Steps p.tables e below (T102.setTop (mkF m 22 #[.val (.ref a1), .val .null] [])) _
    refine XS.aconstNull X102.here hx rfl (hb hby d5_22) ?_
    exact k_)
  obtain ⟨fs, hr, hrun, hended, hW, hsame⟩ := X102.leave (v := some .null) (fun h => by rw [Bd.returns] at h; cases h)
  refine ⟨_, _, pre103 _ ?_, hrun, hended, _, _, rfl, ?_, ⟨_, rfl⟩, hW, hsame.mono (by decide) (by decide)⟩
  · show Steps p.tables e below (T102.setTop (mkF m 23 #[.val (.ref a1), .val .null] [.null])) _
    jvm_step X102.here [X102.here.top, hx, (hb hby d5_23), X102.method', Bd.returns, Value.isRef, FieldType.isReference]
    first | (intro acts; rw [hr _ acts rfl rfl rfl]) | rw [hr _ _ rfl rfl rfl]
    exact Steps.refl _
  · show QrmB4 Z a1 tr fi tw h0 n0 _ T102.heap _
    rw [e102]
    exact ⟨rfl, N0, rfl⟩
theorem pd_1 : parseMethodDescriptor "(I)Lcom/example/muster/muster/StrategicAction;" = some ⟨[.int], some (.object "com/example/muster/muster/StrategicAction")⟩ := by decide +kernel
theorem pd_2 : parseMethodDescriptor "(Ljava/lang/String;Lcom/example/muster/muster/UnitType;ILcom/example/muster/muster/StrategicAction;Lcom/example/muster/muster/StrategicAction;Z)V" = some ⟨[(.object "java/lang/String"), (.object "com/example/muster/muster/UnitType"), .int, (.object "com/example/muster/muster/StrategicAction"), (.object "com/example/muster/muster/StrategicAction"), .boolean], none⟩ := by decide +kernel
theorem pd_3 : parseMethodDescriptor "(Lcom/example/muster/muster/StrategicAction;)Lcom/example/muster/muster/StrategicAction;" = some ⟨[(.object "com/example/muster/muster/StrategicAction")], some (.object "com/example/muster/muster/StrategicAction")⟩ := by decide +kernel
theorem ef_rm0 (m : MethodId) (x0 : Int32) (x1 : Int32) (x2 : Int32) (x3 : Int32) (x4 : Int32) : entryFrame m #[(.int x0), (.int x1), (.int x2), (.int x3), (.int x4)] maxLocals = mkF m 0 #[.val (.int x0), .val (.int x1), .val (.int x2), .val (.int x3), .val (.int x4), .unset, .unset, .unset, .unset, .unset, .unset, .unset, .unset, .unset, .unset] [] := by first | (simp [entryFrame, mkF, argsToLocals, Value.category, maxLocals]; done) | rfl
def Qrm0 (Z : State) (p1 : Int32) (p2 : Int32) (p3 : Int32) (p4 : Int32) (p5 : Int32) (en0 : Addr) (en1 : Addr) (en2 : Addr) (en3 : Addr) (en4 : Addr) (en5 : Addr) (en6 : Addr) (en7 : Addr) (en8 : Addr) (h0 : Heap) (n0 : Nat) (v : Option Value) (h : Heap) (L : List Loc) : Prop := v = some (.int 1) ∧ Fr n0 L
set_option maxRecDepth 65536 in
set_option maxHeartbeats 40000000 in
theorem rm0 (l : Launch) (Z : State) (a0 : Array Value) (hw : ∀ d ∈ tables_1, d.before a0 Z = true) (ws : List Jvm.Cond) (p1 : Int32) (p2 : Int32) (p3 : Int32) (p4 : Int32) (p5 : Int32) (en0 : Addr) (en1 : Addr) (en2 : Addr) (en3 : Addr) (en4 : Addr) (en5 : Addr) (en6 : Addr) (en7 : Addr) (en8 : Addr) (h0 : Heap) (n0 : Nat) (Z0 : n0 ≤ h0.size) (S_0 : Sta Z h0 "com/example/muster/muster/StrategicAction" "IDLE" "Lcom/example/muster/muster/StrategicAction;" (.ref en0)) (S_1 : Sta Z h0 "com/example/muster/muster/StrategicAction" "BUILD_WORKER" "Lcom/example/muster/muster/StrategicAction;" (.ref en1)) (S_2 : Sta Z h0 "com/example/muster/muster/StrategicAction" "BUILD_BARRACKS" "Lcom/example/muster/muster/StrategicAction;" (.ref en2)) (S_3 : Sta Z h0 "com/example/muster/muster/StrategicAction" "BUILD_MELEE" "Lcom/example/muster/muster/StrategicAction;" (.ref en3)) (S_4 : Sta Z h0 "com/example/muster/muster/StrategicAction" "BUILD_RANGED" "Lcom/example/muster/muster/StrategicAction;" (.ref en4)) (S_5 : Sta Z h0 "com/example/muster/muster/StrategicAction" "HIT_AND_RUN" "Lcom/example/muster/muster/StrategicAction;" (.ref en5)) (S_6 : Sta Z h0 "com/example/muster/muster/StrategicAction" "ATTACK" "Lcom/example/muster/muster/StrategicAction;" (.ref en6)) (S_7 : Sta Z h0 "com/example/muster/muster/StrategicAction" "ATTACK_IN_RANGE" "Lcom/example/muster/muster/StrategicAction;" (.ref en7)) (S_8 : Sta Z h0 "com/example/muster/muster/StrategicAction" "ALL_DEFEND" "Lcom/example/muster/muster/StrategicAction;" (.ref en8)) (F_0 : Fld Z h0 en0 "java/lang/Enum" "ordinal" "I" (.int 0)) (F_1 : Fld Z h0 en1 "java/lang/Enum" "ordinal" "I" (.int 1)) (F_2 : Fld Z h0 en2 "java/lang/Enum" "ordinal" "I" (.int 2)) (F_3 : Fld Z h0 en3 "java/lang/Enum" "ordinal" "I" (.int 3)) (F_4 : Fld Z h0 en4 "java/lang/Enum" "ordinal" "I" (.int 4)) (F_5 : Fld Z h0 en5 "java/lang/Enum" "ordinal" "I" (.int 5)) (F_6 : Fld Z h0 en6 "java/lang/Enum" "ordinal" "I" (.int 6)) (F_7 : Fld Z h0 en7 "java/lang/Enum" "ordinal" "I" (.int 7)) (F_8 : Fld Z h0 en8 "java/lang/Enum" "ordinal" "I" (.int 8)) :
    MetFree l x (head1 (Jvm.Cond.code x code maxLocals ret :: ws) room_1) (fun a U => a = #[(.int p1), (.int p2), (.int p3), (.int p4), (.int p5)] ∧ Z.Warmed39 U.vm ∧ U.heap = h0) (fun _ _ _ _ _ => True) (fun _ U o U' => ∃ v L, o = .returned v ∧ Qrm0 Z p1 p2 p3 p4 p5 en0 en1 en2 en3 en4 en5 en6 en7 en8 h0 n0 v U'.heap L ∧ ReturnedEndW U o U' L room_1.cells room_1.slots) := by
  refine MetFree.of_bodySF (plainFor_of_name pn_0) hisR ?_
  intro p e s m args below meth c s₁ Bd hml0 hP hK
  obtain ⟨rfl, hZ, hh⟩ := hP
  have hx := Bd.exec
  have hby := Bd.bytes
  have hml : c.maxLocals = 15 := hml0
  have hown : s.vm.findClass "com/example/muster/muster/RuleBesidesPinLaw" = some m.cls := findClass_of_methodNamed Bd.named
  have hnm := (name_of_methodNamed Bd.named Bd.method).1
  have X0 : Stand p l e room_1 s m #[(.int p1), (.int p2), (.int p3), (.int p4), (.int p5)] below meth c s₁ [] 0 0 := Stand.of_body Bd
  have e0 : s₁.heap = h0 := by rw [← hh, Bd.state]; rfl
  have N0 := Fr.nil n0
  have pre0 : ∀ t_, Steps p.tables e below (s₁.setTop (mkF m 0 #[.val (.int p1), .val (.int p2), .val (.int p3), .val (.int p4), .val (.int p5), .unset, .unset, .unset, .unset, .unset, .unset, .unset, .unset, .unset, .unset] [])) t_ → Steps p.tables e below (s₁.setTop (entryFrame m #[(.int p1), (.int p2), (.int p3), (.int p4), (.int p5)] maxLocals)) t_ := fun t_ k_ => castTop (ef_rm0 m p1 p2 p3 p4 p5) k_
  obtain ⟨kt, hv_kt, pre101⟩ : ∃ z_ : Int32, z_ = ((p1 &&& (2147483647 : Int32)) % (9 : Int32)) ∧ ∀ t_, Steps p.tables e below (s₁.setTop (mkF m 27 #[.val (.int p1), .val (.int p2), .val (.int p3), .val (.int p4), .val (.int p5), .val (.int z_), .val (.int ((p2 &&& (2147483647 : Int32)) % (9 : Int32))), .val (.int ((p3 &&& (2147483647 : Int32)) % (10 : Int32))), .unset, .unset, .unset, .unset, .unset, .unset, .unset] [])) t_ → Steps p.tables e below (s₁.setTop (entryFrame m #[(.int p1), (.int p2), (.int p3), (.int p4), (.int p5)] maxLocals)) t_ := ⟨_, rfl, fun t_ k_ => pre0 _ (by
    show Steps p.tables e below (s₁.setTop (mkF m 0 #[.val (.int p1), .val (.int p2), .val (.int p3), .val (.int p4), .val (.int p5), .unset, .unset, .unset, .unset, .unset, .unset, .unset, .unset, .unset, .unset] [])) _
    refine XS.iloadN X0.here hx rfl (hb hby at_0) rfl ?_
    show Steps p.tables e below (s₁.setTop (mkF m 1 #[.val (.int p1), .val (.int p2), .val (.int p3), .val (.int p4), .val (.int p5), .unset, .unset, .unset, .unset, .unset, .unset, .unset, .unset, .unset, .unset] [(.int p1)])) _
    refine X0.ldcInt hx hown (mvT hZ (hw _ (List.mem_of_getElem? (i := 0) rfl))) (g := (mkF m 1 #[.val (.int p1), .val (.int p2), .val (.int p3), .val (.int p4), .val (.int p5), .unset, .unset, .unset, .unset, .unset, .unset, .unset, .unset, .unset, .unset] [(.int p1)])) rfl (hb hby at_1) _ ?_
    show Steps p.tables e below (s₁.setTop (mkF m 3 #[.val (.int p1), .val (.int p2), .val (.int p3), .val (.int p4), .val (.int p5), .unset, .unset, .unset, .unset, .unset, .unset, .unset, .unset, .unset, .unset] [(.int (2147483647 : Int32)), (.int p1)])) _
    refine XS.iand X0.here hx rfl (hb hby at_3) rfl ?_
    show Steps p.tables e below (s₁.setTop (mkF m 4 #[.val (.int p1), .val (.int p2), .val (.int p3), .val (.int p4), .val (.int p5), .unset, .unset, .unset, .unset, .unset, .unset, .unset, .unset, .unset, .unset] [(.int (p1 &&& (2147483647 : Int32)))])) _
    refine XS.bipush X0.here hx rfl (hb hby at_4) ?_
    show Steps p.tables e below (s₁.setTop (mkF m 6 #[.val (.int p1), .val (.int p2), .val (.int p3), .val (.int p4), .val (.int p5), .unset, .unset, .unset, .unset, .unset, .unset, .unset, .unset, .unset, .unset] [(.int (9 : Int32)), (.int (p1 &&& (2147483647 : Int32)))])) _
    refine iremM X0 hx rfl (hb hby at_6) rfl (by decide) ?_
    show Steps p.tables e below (s₁.setTop (mkF m 7 #[.val (.int p1), .val (.int p2), .val (.int p3), .val (.int p4), .val (.int p5), .unset, .unset, .unset, .unset, .unset, .unset, .unset, .unset, .unset, .unset] [(.int ((p1 &&& (2147483647 : Int32)) % (9 : Int32)))])) _
    refine XS.istore X0.here hx rfl (hb hby at_7) rfl (l' := #[.val (.int p1), .val (.int p2), .val (.int p3), .val (.int p4), .val (.int p5), .val (.int ((p1 &&& (2147483647 : Int32)) % (9 : Int32))), .unset, .unset, .unset, .unset, .unset, .unset, .unset, .unset, .unset]) rfl ?_
    show Steps p.tables e below (s₁.setTop (mkF m 9 #[.val (.int p1), .val (.int p2), .val (.int p3), .val (.int p4), .val (.int p5), .val (.int ((p1 &&& (2147483647 : Int32)) % (9 : Int32))), .unset, .unset, .unset, .unset, .unset, .unset, .unset, .unset, .unset] [])) _
    refine XS.iloadN X0.here hx rfl (hb hby at_9) rfl ?_
    show Steps p.tables e below (s₁.setTop (mkF m 10 #[.val (.int p1), .val (.int p2), .val (.int p3), .val (.int p4), .val (.int p5), .val (.int ((p1 &&& (2147483647 : Int32)) % (9 : Int32))), .unset, .unset, .unset, .unset, .unset, .unset, .unset, .unset, .unset] [(.int p2)])) _
    refine X0.ldcInt hx hown (mvT hZ (hw _ (List.mem_of_getElem? (i := 0) rfl))) (g := (mkF m 10 #[.val (.int p1), .val (.int p2), .val (.int p3), .val (.int p4), .val (.int p5), .val (.int ((p1 &&& (2147483647 : Int32)) % (9 : Int32))), .unset, .unset, .unset, .unset, .unset, .unset, .unset, .unset, .unset] [(.int p2)])) rfl (hb hby at_10) _ ?_
    show Steps p.tables e below (s₁.setTop (mkF m 12 #[.val (.int p1), .val (.int p2), .val (.int p3), .val (.int p4), .val (.int p5), .val (.int ((p1 &&& (2147483647 : Int32)) % (9 : Int32))), .unset, .unset, .unset, .unset, .unset, .unset, .unset, .unset, .unset] [(.int (2147483647 : Int32)), (.int p2)])) _
    refine XS.iand X0.here hx rfl (hb hby at_12) rfl ?_
    show Steps p.tables e below (s₁.setTop (mkF m 13 #[.val (.int p1), .val (.int p2), .val (.int p3), .val (.int p4), .val (.int p5), .val (.int ((p1 &&& (2147483647 : Int32)) % (9 : Int32))), .unset, .unset, .unset, .unset, .unset, .unset, .unset, .unset, .unset] [(.int (p2 &&& (2147483647 : Int32)))])) _
    refine XS.bipush X0.here hx rfl (hb hby at_13) ?_
    show Steps p.tables e below (s₁.setTop (mkF m 15 #[.val (.int p1), .val (.int p2), .val (.int p3), .val (.int p4), .val (.int p5), .val (.int ((p1 &&& (2147483647 : Int32)) % (9 : Int32))), .unset, .unset, .unset, .unset, .unset, .unset, .unset, .unset, .unset] [(.int (9 : Int32)), (.int (p2 &&& (2147483647 : Int32)))])) _
    refine iremM X0 hx rfl (hb hby at_15) rfl (by decide) ?_
    show Steps p.tables e below (s₁.setTop (mkF m 16 #[.val (.int p1), .val (.int p2), .val (.int p3), .val (.int p4), .val (.int p5), .val (.int ((p1 &&& (2147483647 : Int32)) % (9 : Int32))), .unset, .unset, .unset, .unset, .unset, .unset, .unset, .unset, .unset] [(.int ((p2 &&& (2147483647 : Int32)) % (9 : Int32)))])) _
    refine XS.istore X0.here hx rfl (hb hby at_16) rfl (l' := #[.val (.int p1), .val (.int p2), .val (.int p3), .val (.int p4), .val (.int p5), .val (.int ((p1 &&& (2147483647 : Int32)) % (9 : Int32))), .val (.int ((p2 &&& (2147483647 : Int32)) % (9 : Int32))), .unset, .unset, .unset, .unset, .unset, .unset, .unset, .unset]) rfl ?_
    show Steps p.tables e below (s₁.setTop (mkF m 18 #[.val (.int p1), .val (.int p2), .val (.int p3), .val (.int p4), .val (.int p5), .val (.int ((p1 &&& (2147483647 : Int32)) % (9 : Int32))), .val (.int ((p2 &&& (2147483647 : Int32)) % (9 : Int32))), .unset, .unset, .unset, .unset, .unset, .unset, .unset, .unset] [])) _
    refine XS.iloadN X0.here hx rfl (hb hby at_18) rfl ?_
    show Steps p.tables e below (s₁.setTop (mkF m 19 #[.val (.int p1), .val (.int p2), .val (.int p3), .val (.int p4), .val (.int p5), .val (.int ((p1 &&& (2147483647 : Int32)) % (9 : Int32))), .val (.int ((p2 &&& (2147483647 : Int32)) % (9 : Int32))), .unset, .unset, .unset, .unset, .unset, .unset, .unset, .unset] [(.int p3)])) _
    refine X0.ldcInt hx hown (mvT hZ (hw _ (List.mem_of_getElem? (i := 0) rfl))) (g := (mkF m 19 #[.val (.int p1), .val (.int p2), .val (.int p3), .val (.int p4), .val (.int p5), .val (.int ((p1 &&& (2147483647 : Int32)) % (9 : Int32))), .val (.int ((p2 &&& (2147483647 : Int32)) % (9 : Int32))), .unset, .unset, .unset, .unset, .unset, .unset, .unset, .unset] [(.int p3)])) rfl (hb hby at_19) _ ?_
    show Steps p.tables e below (s₁.setTop (mkF m 21 #[.val (.int p1), .val (.int p2), .val (.int p3), .val (.int p4), .val (.int p5), .val (.int ((p1 &&& (2147483647 : Int32)) % (9 : Int32))), .val (.int ((p2 &&& (2147483647 : Int32)) % (9 : Int32))), .unset, .unset, .unset, .unset, .unset, .unset, .unset, .unset] [(.int (2147483647 : Int32)), (.int p3)])) _
    refine XS.iand X0.here hx rfl (hb hby at_21) rfl ?_
    show Steps p.tables e below (s₁.setTop (mkF m 22 #[.val (.int p1), .val (.int p2), .val (.int p3), .val (.int p4), .val (.int p5), .val (.int ((p1 &&& (2147483647 : Int32)) % (9 : Int32))), .val (.int ((p2 &&& (2147483647 : Int32)) % (9 : Int32))), .unset, .unset, .unset, .unset, .unset, .unset, .unset, .unset] [(.int (p3 &&& (2147483647 : Int32)))])) _
    refine XS.bipush X0.here hx rfl (hb hby at_22) ?_
    show Steps p.tables e below (s₁.setTop (mkF m 24 #[.val (.int p1), .val (.int p2), .val (.int p3), .val (.int p4), .val (.int p5), .val (.int ((p1 &&& (2147483647 : Int32)) % (9 : Int32))), .val (.int ((p2 &&& (2147483647 : Int32)) % (9 : Int32))), .unset, .unset, .unset, .unset, .unset, .unset, .unset, .unset] [(.int (10 : Int32)), (.int (p3 &&& (2147483647 : Int32)))])) _
    refine iremM X0 hx rfl (hb hby at_24) rfl (by decide) ?_
    show Steps p.tables e below (s₁.setTop (mkF m 25 #[.val (.int p1), .val (.int p2), .val (.int p3), .val (.int p4), .val (.int p5), .val (.int ((p1 &&& (2147483647 : Int32)) % (9 : Int32))), .val (.int ((p2 &&& (2147483647 : Int32)) % (9 : Int32))), .unset, .unset, .unset, .unset, .unset, .unset, .unset, .unset] [(.int ((p3 &&& (2147483647 : Int32)) % (10 : Int32)))])) _
    refine XS.istore X0.here hx rfl (hb hby at_25) rfl (l' := #[.val (.int p1), .val (.int p2), .val (.int p3), .val (.int p4), .val (.int p5), .val (.int ((p1 &&& (2147483647 : Int32)) % (9 : Int32))), .val (.int ((p2 &&& (2147483647 : Int32)) % (9 : Int32))), .val (.int ((p3 &&& (2147483647 : Int32)) % (10 : Int32))), .unset, .unset, .unset, .unset, .unset, .unset, .unset]) rfl ?_
    exact k_)⟩
  obtain ⟨kf, hv_kf, pre102⟩ : ∃ z_ : Int32, z_ = ((p2 &&& (2147483647 : Int32)) % (9 : Int32)) ∧ ∀ t_, Steps p.tables e below (s₁.setTop (mkF m 27 #[.val (.int p1), .val (.int p2), .val (.int p3), .val (.int p4), .val (.int p5), .val (.int kt), .val (.int z_), .val (.int ((p3 &&& (2147483647 : Int32)) % (10 : Int32))), .unset, .unset, .unset, .unset, .unset, .unset, .unset] [])) t_ → Steps p.tables e below (s₁.setTop (entryFrame m #[(.int p1), (.int p2), (.int p3), (.int p4), (.int p5)] maxLocals)) t_ := ⟨_, rfl, fun t_ k_ => pre101 _ (by
    exact k_)⟩
  obtain ⟨kd, hv_kd, pre103⟩ : ∃ z_ : Int32, z_ = ((p3 &&& (2147483647 : Int32)) % (10 : Int32)) ∧ ∀ t_, Steps p.tables e below (s₁.setTop (mkF m 27 #[.val (.int p1), .val (.int p2), .val (.int p3), .val (.int p4), .val (.int p5), .val (.int kt), .val (.int kf), .val (.int z_), .unset, .unset, .unset, .unset, .unset, .unset, .unset] [])) t_ → Steps p.tables e below (s₁.setTop (entryFrame m #[(.int p1), (.int p2), (.int p3), (.int p4), (.int p5)] maxLocals)) t_ := ⟨_, rfl, fun t_ k_ => pre102 _ (by
    exact k_)⟩
  have ht : own_in9 kt := by rw [hv_kt]; exact own_k9 p1
  have hf : own_in9 kf := by rw [hv_kf]; exact own_k9 p2
  have hd : own_in9 kd ∨ kd = 9 := by rw [hv_kd]; exact own_k10 p3
  have pre104 : ∀ t_, Steps p.tables e below (s₁.setTop (mkF m 30 #[.val (.int p1), .val (.int p2), .val (.int p3), .val (.int p4), .val (.int p5), .val (.int kt), .val (.int kf), .val (.int kd), .unset, .unset, .unset, .unset, .unset, .unset, .unset] [(.int (p4 &&& (1 : Int32)))])) t_ → Steps p.tables e below (s₁.setTop (entryFrame m #[(.int p1), (.int p2), (.int p3), (.int p4), (.int p5)] maxLocals)) t_ := fun t_ k_ => pre103 _ (by
    show Steps p.tables e below (s₁.setTop (mkF m 27 #[.val (.int p1), .val (.int p2), .val (.int p3), .val (.int p4), .val (.int p5), .val (.int kt), .val (.int kf), .val (.int kd), .unset, .unset, .unset, .unset, .unset, .unset, .unset] [])) _
    refine XS.iloadN X0.here hx rfl (hb hby at_27) rfl ?_
    show Steps p.tables e below (s₁.setTop (mkF m 28 #[.val (.int p1), .val (.int p2), .val (.int p3), .val (.int p4), .val (.int p5), .val (.int kt), .val (.int kf), .val (.int kd), .unset, .unset, .unset, .unset, .unset, .unset, .unset] [(.int p4)])) _
    refine XS.iconst X0.here hx rfl (hb hby at_28) ?_
    show Steps p.tables e below (s₁.setTop (mkF m 29 #[.val (.int p1), .val (.int p2), .val (.int p3), .val (.int p4), .val (.int p5), .val (.int kt), .val (.int kf), .val (.int kd), .unset, .unset, .unset, .unset, .unset, .unset, .unset] [(.int (1 : Int32)), (.int p4)])) _
    refine XS.iand X0.here hx rfl (hb hby at_29) rfl ?_
    exact k_)
  obtain ⟨tw, hj_tw, pre105⟩ : ∃ tw : Int32, (tw = 0 ∨ tw = 1) ∧ ∀ t_, Steps p.tables e below (s₁.setTop (mkF m 38 #[.val (.int p1), .val (.int p2), .val (.int p3), .val (.int p4), .val (.int p5), .val (.int kt), .val (.int kf), .val (.int kd), .unset, .unset, .unset, .unset, .unset, .unset, .unset] [(.int tw)])) t_ → Steps p.tables e below (s₁.setTop (entryFrame m #[(.int p1), (.int p2), (.int p3), (.int p4), (.int p5)] maxLocals)) t_ := by
    by_cases hf1 : (p4 &&& (1 : Int32)) = (0 : Int32)
    · skip
      have pre106 : ∀ t_, Steps p.tables e below (s₁.setTop (mkF m 38 #[.val (.int p1), .val (.int p2), .val (.int p3), .val (.int p4), .val (.int p5), .val (.int kt), .val (.int kf), .val (.int kd), .unset, .unset, .unset, .unset, .unset, .unset, .unset] [(.int (0 : Int32))])) t_ → Steps p.tables e below (s₁.setTop (entryFrame m #[(.int p1), (.int p2), (.int p3), (.int p4), (.int p5)] maxLocals)) t_ := fun t_ k_ => pre104 _ (by
        show Steps p.tables e below (s₁.setTop (mkF m 30 #[.val (.int p1), .val (.int p2), .val (.int p3), .val (.int p4), .val (.int p5), .val (.int kt), .val (.int kf), .val (.int kd), .unset, .unset, .unset, .unset, .unset, .unset, .unset] [(.int (p4 &&& (1 : Int32)))])) _
        refine XS.ifYes X0.here hx rfl (pc0 := 30) (pc' := 37) rfl (hb hby at_30) rfl ((if0 _ _).trans (teq hf1).1) (by decide) (by decide) ?_
        show Steps p.tables e below (s₁.setTop (mkF m 37 #[.val (.int p1), .val (.int p2), .val (.int p3), .val (.int p4), .val (.int p5), .val (.int kt), .val (.int kf), .val (.int kd), .unset, .unset, .unset, .unset, .unset, .unset, .unset] [])) _
        refine XS.iconst X0.here hx rfl (hb hby at_37) ?_
        exact k_)
      exact ⟨(0 : Int32), Or.inl rfl, pre106⟩
    · skip
      have pre107 : ∀ t_, Steps p.tables e below (s₁.setTop (mkF m 38 #[.val (.int p1), .val (.int p2), .val (.int p3), .val (.int p4), .val (.int p5), .val (.int kt), .val (.int kf), .val (.int kd), .unset, .unset, .unset, .unset, .unset, .unset, .unset] [(.int (1 : Int32))])) t_ → Steps p.tables e below (s₁.setTop (entryFrame m #[(.int p1), (.int p2), (.int p3), (.int p4), (.int p5)] maxLocals)) t_ := fun t_ k_ => pre104 _ (by
        show Steps p.tables e below (s₁.setTop (mkF m 30 #[.val (.int p1), .val (.int p2), .val (.int p3), .val (.int p4), .val (.int p5), .val (.int kt), .val (.int kf), .val (.int kd), .unset, .unset, .unset, .unset, .unset, .unset, .unset] [(.int (p4 &&& (1 : Int32)))])) _
        refine XS.ifNo X0.here hx rfl (hb hby at_30) rfl ((if0 _ _).trans (feq hf1).1) ?_
        show Steps p.tables e below (s₁.setTop (mkF m 33 #[.val (.int p1), .val (.int p2), .val (.int p3), .val (.int p4), .val (.int p5), .val (.int kt), .val (.int kf), .val (.int kd), .unset, .unset, .unset, .unset, .unset, .unset, .unset] [])) _
        refine XS.iconst X0.here hx rfl (hb hby at_33) ?_
        show Steps p.tables e below (s₁.setTop (mkF m 34 #[.val (.int p1), .val (.int p2), .val (.int p3), .val (.int p4), .val (.int p5), .val (.int kt), .val (.int kf), .val (.int kd), .unset, .unset, .unset, .unset, .unset, .unset, .unset] [(.int (1 : Int32))])) _
        refine XS.goto X0.here hx rfl (pc0 := 34) (pc' := 38) rfl (hb hby at_34) (by decide) (by decide) ?_
        exact k_)
      exact ⟨(1 : Int32), Or.inr rfl, pre107⟩
  obtain ⟨_, _, ⟨T108, L108, k108, n108⟩, -, X108, ⟨Lc108, hQ108, l108, y108, z108⟩, st108⟩ := Jvm.LawKit.callS X0 hx (y := (⟨"com/example/muster/muster/RuleBesidesPinLaw", "action", "(I)Lcom/example/muster/muster/StrategicAction;"⟩ : MethodName)) hown (mvT hZ (hw _ (List.mem_of_getElem? (i := 1) rfl))) (mvT hZ (hw _ (List.mem_of_getElem? (i := 2) rfl))) (mvT hZ (hw _ (List.mem_of_getElem? (i := 3) rfl))) (mvT hZ (hw _ (List.mem_of_getElem? (i := 4) rfl))) (by decide) (backOf (W := 0) (rmA l Z a0 hw [] kt en0 en1 en2 en3 en4 en5 en6 en7 en8 h0 n0 Z0 S_0 S_1 S_2 S_3 S_4 S_5 S_6 S_7 S_8 ht) hZ (hw _ (List.mem_of_getElem? (i := 4) rfl)) (hw _ (List.mem_of_getElem? (i := 3) rfl)) (by decide) (by decide)) (g := (mkF m 42 #[.val (.int p1), .val (.int p2), .val (.int p3), .val (.int p4), .val (.int p5), .val (.int kt), .val (.int kf), .val (.int kd), .val (.int tw), .unset, .unset, .unset, .unset, .unset, .unset] [(.int kt)])) rfl (by rw [hml]; rfl) (argsL := [(.int kt)]) (rest := []) (lenOf pd_1 rfl) rfl (by show 2 * 0 + _ ≤ _; exact Nat.le_of_eq rfl) (hb hby at_42) (fun _ _ => ⟨rfl, e0, (by decide : 0 + 0 ≤ _), (by decide : 0 + 0 ≤ _)⟩)
  dsimp only [Pt.U, Pt.locs, Pt.cells, Pt.slots] at X108 l108 y108 z108 st108 hQ108
  subst l108 y108 z108
  obtain ⟨rfl, N108q, e108⟩ := hQ108
  have N108 := Fr.app N0 N108q
  obtain ⟨tr, hv_tr, pre109⟩ : ∃ z_ : Addr, z_ = (own_act kt en0 en1 en2 en3 en4 en5 en6 en7 en8) ∧ ∀ t_, Steps p.tables e below (T108.setTop (mkF m 45 #[.val (.int p1), .val (.int p2), .val (.int p3), .val (.int p4), .val (.int p5), .val (.int kt), .val (.int kf), .val (.int kd), .val (.int tw), .unset, .unset, .unset, .unset, .unset, .unset] [(.ref z_)])) t_ → Steps p.tables e below (s₁.setTop (entryFrame m #[(.int p1), (.int p2), (.int p3), (.int p4), (.int p5)] maxLocals)) t_ := ⟨_, rfl, fun t_ k_ => pre105 _ (by
    show Steps p.tables e below (s₁.setTop (mkF m 38 #[.val (.int p1), .val (.int p2), .val (.int p3), .val (.int p4), .val (.int p5), .val (.int kt), .val (.int kf), .val (.int kd), .unset, .unset, .unset, .unset, .unset, .unset, .unset] [(.int tw)])) _
    refine XS.istore X0.here hx rfl (hb hby at_38) rfl (l' := #[.val (.int p1), .val (.int p2), .val (.int p3), .val (.int p4), .val (.int p5), .val (.int kt), .val (.int kf), .val (.int kd), .val (.int tw), .unset, .unset, .unset, .unset, .unset, .unset]) rfl ?_
    show Steps p.tables e below (s₁.setTop (mkF m 40 #[.val (.int p1), .val (.int p2), .val (.int p3), .val (.int p4), .val (.int p5), .val (.int kt), .val (.int kf), .val (.int kd), .val (.int tw), .unset, .unset, .unset, .unset, .unset, .unset] [])) _
    refine XS.iload X0.here hx rfl (hb hby at_40) rfl ?_
    show Steps p.tables e below (s₁.setTop (mkF m 42 #[.val (.int p1), .val (.int p2), .val (.int p3), .val (.int p4), .val (.int p5), .val (.int kt), .val (.int kf), .val (.int kd), .val (.int tw), .unset, .unset, .unset, .unset, .unset, .unset] [(.int kt)])) _
    refine st108 _ ?_
    exact k_)⟩
  obtain ⟨_, _, ⟨T110, L110, k110, n110⟩, -, X110, ⟨Lc110, hQ110, l110, y110, z110⟩, st110⟩ := Jvm.LawKit.callS X108 hx (y := (⟨"com/example/muster/muster/RuleBesidesPinLaw", "action", "(I)Lcom/example/muster/muster/StrategicAction;"⟩ : MethodName)) hown (mvT hZ (hw _ (List.mem_of_getElem? (i := 1) rfl))) (mvT hZ (hw _ (List.mem_of_getElem? (i := 2) rfl))) (mvT hZ (hw _ (List.mem_of_getElem? (i := 3) rfl))) (mvT hZ (hw _ (List.mem_of_getElem? (i := 4) rfl))) (by decide) (backOf (W := 0) (rmA l Z a0 hw [] kf en0 en1 en2 en3 en4 en5 en6 en7 en8 h0 n0 Z0 S_0 S_1 S_2 S_3 S_4 S_5 S_6 S_7 S_8 hf) hZ (hw _ (List.mem_of_getElem? (i := 4) rfl)) (hw _ (List.mem_of_getElem? (i := 3) rfl)) (by decide) (by decide)) (g := (mkF m 49 #[.val (.int p1), .val (.int p2), .val (.int p3), .val (.int p4), .val (.int p5), .val (.int kt), .val (.int kf), .val (.int kd), .val (.int tw), .val (.ref tr), .unset, .unset, .unset, .unset, .unset] [(.int kf)])) rfl (by rw [hml]; rfl) (argsL := [(.int kf)]) (rest := []) (lenOf pd_1 rfl) rfl (by show 2 * 0 + _ ≤ _; exact Nat.le_of_eq rfl) (hb hby at_49) (fun _ _ => ⟨rfl, e108, (by decide : 0 + 0 ≤ _), (by decide : 0 + 0 ≤ _)⟩)
  dsimp only [Pt.U, Pt.locs, Pt.cells, Pt.slots] at X110 l110 y110 z110 st110 hQ110
  subst l110 y110 z110
  obtain ⟨rfl, N110q, e110⟩ := hQ110
  have N110 := Fr.app N108 N110q
  obtain ⟨fi, hv_fi, pre111⟩ : ∃ z_ : Addr, z_ = (own_act kf en0 en1 en2 en3 en4 en5 en6 en7 en8) ∧ ∀ t_, Steps p.tables e below (T110.setTop (mkF m 52 #[.val (.int p1), .val (.int p2), .val (.int p3), .val (.int p4), .val (.int p5), .val (.int kt), .val (.int kf), .val (.int kd), .val (.int tw), .val (.ref tr), .unset, .unset, .unset, .unset, .unset] [(.ref z_)])) t_ → Steps p.tables e below (s₁.setTop (entryFrame m #[(.int p1), (.int p2), (.int p3), (.int p4), (.int p5)] maxLocals)) t_ := ⟨_, rfl, fun t_ k_ => pre109 _ (by
    show Steps p.tables e below (T108.setTop (mkF m 45 #[.val (.int p1), .val (.int p2), .val (.int p3), .val (.int p4), .val (.int p5), .val (.int kt), .val (.int kf), .val (.int kd), .val (.int tw), .unset, .unset, .unset, .unset, .unset, .unset] [(.ref tr)])) _
    refine XS.astore X108.here hx rfl (hb hby at_45) rfl rfl (l' := #[.val (.int p1), .val (.int p2), .val (.int p3), .val (.int p4), .val (.int p5), .val (.int kt), .val (.int kf), .val (.int kd), .val (.int tw), .val (.ref tr), .unset, .unset, .unset, .unset, .unset]) rfl ?_
    show Steps p.tables e below (T108.setTop (mkF m 47 #[.val (.int p1), .val (.int p2), .val (.int p3), .val (.int p4), .val (.int p5), .val (.int kt), .val (.int kf), .val (.int kd), .val (.int tw), .val (.ref tr), .unset, .unset, .unset, .unset, .unset] [])) _
    refine XS.iload X108.here hx rfl (hb hby at_47) rfl ?_
    show Steps p.tables e below (T108.setTop (mkF m 49 #[.val (.int p1), .val (.int p2), .val (.int p3), .val (.int p4), .val (.int p5), .val (.int kt), .val (.int kf), .val (.int kd), .val (.int tw), .val (.ref tr), .unset, .unset, .unset, .unset, .unset] [(.int kf)])) _
    refine st110 _ ?_
    exact k_)⟩
  have pre112 : ∀ t_, Steps p.tables e below (T110.setTop (mkF m 56 #[.val (.int p1), .val (.int p2), .val (.int p3), .val (.int p4), .val (.int p5), .val (.int kt), .val (.int kf), .val (.int kd), .val (.int tw), .val (.ref tr), .val (.ref fi), .unset, .unset, .unset, .unset] [(.int kd)])) t_ → Steps p.tables e below (s₁.setTop (entryFrame m #[(.int p1), (.int p2), (.int p3), (.int p4), (.int p5)] maxLocals)) t_ := fun t_ k_ => pre111 _ (by
    show Steps p.tables e below (T110.setTop (mkF m 52 #[.val (.int p1), .val (.int p2), .val (.int p3), .val (.int p4), .val (.int p5), .val (.int kt), .val (.int kf), .val (.int kd), .val (.int tw), .val (.ref tr), .unset, .unset, .unset, .unset, .unset] [(.ref fi)])) _
    refine XS.astore X110.here hx rfl (hb hby at_52) rfl rfl (l' := #[.val (.int p1), .val (.int p2), .val (.int p3), .val (.int p4), .val (.int p5), .val (.int kt), .val (.int kf), .val (.int kd), .val (.int tw), .val (.ref tr), .val (.ref fi), .unset, .unset, .unset, .unset]) rfl ?_
    show Steps p.tables e below (T110.setTop (mkF m 54 #[.val (.int p1), .val (.int p2), .val (.int p3), .val (.int p4), .val (.int p5), .val (.int kt), .val (.int kf), .val (.int kd), .val (.int tw), .val (.ref tr), .val (.ref fi), .unset, .unset, .unset, .unset] [])) _
    refine XS.iload X110.here hx rfl (hb hby at_54) rfl ?_
    exact k_)
  rcases hd with hd | hd
  · skip
    obtain ⟨_, _, ⟨T113, L113, k113, n113⟩, -, X113, ⟨Lc113, hQ113, l113, y113, z113⟩, st113⟩ := Jvm.LawKit.callS X110 hx (y := (⟨"com/example/muster/muster/RuleBesidesPinLaw", "action", "(I)Lcom/example/muster/muster/StrategicAction;"⟩ : MethodName)) hown (mvT hZ (hw _ (List.mem_of_getElem? (i := 1) rfl))) (mvT hZ (hw _ (List.mem_of_getElem? (i := 2) rfl))) (mvT hZ (hw _ (List.mem_of_getElem? (i := 3) rfl))) (mvT hZ (hw _ (List.mem_of_getElem? (i := 4) rfl))) (by decide) (backOf (W := 0) (rmA l Z a0 hw [] kd en0 en1 en2 en3 en4 en5 en6 en7 en8 h0 n0 Z0 S_0 S_1 S_2 S_3 S_4 S_5 S_6 S_7 S_8 hd) hZ (hw _ (List.mem_of_getElem? (i := 4) rfl)) (hw _ (List.mem_of_getElem? (i := 3) rfl)) (by decide) (by decide)) (g := (mkF m 56 #[.val (.int p1), .val (.int p2), .val (.int p3), .val (.int p4), .val (.int p5), .val (.int kt), .val (.int kf), .val (.int kd), .val (.int tw), .val (.ref tr), .val (.ref fi), .unset, .unset, .unset, .unset] [(.int kd)])) rfl (by rw [hml]; rfl) (argsL := [(.int kd)]) (rest := []) (lenOf pd_1 rfl) rfl (by show 2 * 0 + _ ≤ _; exact Nat.le_of_eq rfl) (hb hby at_56) (fun _ _ => ⟨rfl, e110, (by decide : 0 + 0 ≤ _), (by decide : 0 + 0 ≤ _)⟩)
    dsimp only [Pt.U, Pt.locs, Pt.cells, Pt.slots] at X113 l113 y113 z113 st113 hQ113
    subst l113 y113 z113
    obtain ⟨rfl, N113q, e113⟩ := hQ113
    have N113 := Fr.app N110 N113q
    obtain ⟨de, hv_de, pre114⟩ : ∃ z_ : Addr, z_ = (own_act kd en0 en1 en2 en3 en4 en5 en6 en7 en8) ∧ ∀ t_, Steps p.tables e below (T113.setTop (mkF m 59 #[.val (.int p1), .val (.int p2), .val (.int p3), .val (.int p4), .val (.int p5), .val (.int kt), .val (.int kf), .val (.int kd), .val (.int tw), .val (.ref tr), .val (.ref fi), .unset, .unset, .unset, .unset] [(.ref z_)])) t_ → Steps p.tables e below (s₁.setTop (entryFrame m #[(.int p1), (.int p2), (.int p3), (.int p4), (.int p5)] maxLocals)) t_ := ⟨_, rfl, fun t_ k_ => pre112 _ (by
      show Steps p.tables e below (T110.setTop (mkF m 56 #[.val (.int p1), .val (.int p2), .val (.int p3), .val (.int p4), .val (.int p5), .val (.int kt), .val (.int kf), .val (.int kd), .val (.int tw), .val (.ref tr), .val (.ref fi), .unset, .unset, .unset, .unset] [(.int kd)])) _
      refine st113 _ ?_
      exact k_)⟩
    obtain ⟨T115, h115, X115, e115, Ext_b, E_b, D_b, -, st115⟩ := newO X113 hx hZ hown (hw _ (List.mem_of_getElem? (i := 12) rfl)) (hw _ (List.mem_of_getElem? (i := 13) rfl)) (hw _ (List.mem_of_getElem? (i := 14) rfl)) e113 (g := (mkF m 61 #[.val (.int p1), .val (.int p2), .val (.int p3), .val (.int p4), .val (.int p5), .val (.int kt), .val (.int kf), .val (.int kd), .val (.int tw), .val (.ref tr), .val (.ref fi), .val (.ref de), .unset, .unset, .unset] [])) rfl (hb hby at_61) (by decide) (by decide)
    obtain ⟨b, eq_b⟩ : ∃ z, z = h0.size := ⟨_, rfl⟩
    rw [← eq_b] at E_b D_b st115
    have g_b : n0 ≤ b := Nat.le_trans Z0 (Nat.le_of_eq eq_b.symm)
    have Z116 : n0 ≤ h115.size := Nat.le_trans Z0 (Ext_b.1)
    obtain ⟨nm, T117, h117, k1_117, X117, e117, Ext117, hS117, hk117, hZ117, hown117, st117⟩ := Jvm.RoadKit.ldcS (s := s) (vm0 := s.vm) X115 hx hZ hown (hw _ (List.mem_of_getElem? (i := 15) rfl)) (own_wS hw) e115 ((State.WarmedH.refl s).since 0) (Nat.zero_le _) (g := (mkF m 65 #[.val (.int p1), .val (.int p2), .val (.int p3), .val (.int p4), .val (.int p5), .val (.int kt), .val (.int kf), .val (.int kd), .val (.int tw), .val (.ref tr), .val (.ref fi), .val (.ref de), .unset, .unset, .unset] [(.ref b), (.ref b)])) rfl (hb hby at_65) (n := 16) (by first | decide | decide +kernel | simp) (by decide) (by decide) (by decide)
    have E_b_118 := E_b.ext Ext117
    have Z119 : n0 ≤ h117.size := Nat.le_trans Z116 (Ext117.1)
    have F0_b : Fld Z h117 b "com/example/muster/muster/RuleBot$Rule" "name" "Ljava/lang/String;" .null := (D_b (Or.inr (hw _ (List.mem_of_getElem? (i := 35) rfl))) (ty := (.object "java/lang/String")) (by decide)).ext Ext117
    have F1_b : Fld Z h117 b "com/example/muster/muster/RuleBot$Rule" "massed" "Lcom/example/muster/muster/UnitType;" .null := (D_b (Or.inr (hw _ (List.mem_of_getElem? (i := 37) rfl))) (ty := (.object "com/example/muster/muster/UnitType")) (by decide)).ext Ext117
    have F2_b : Fld Z h117 b "com/example/muster/muster/RuleBot$Rule" "quota" "I" (.int (0 : Int32)) := (D_b (Or.inr (hw _ (List.mem_of_getElem? (i := 39) rfl))) (ty := .int) (by decide)).ext Ext117
    have F3_b : Fld Z h117 b "com/example/muster/muster/RuleBot$Rule" "trains" "Lcom/example/muster/muster/StrategicAction;" .null := (D_b (Or.inr (hw _ (List.mem_of_getElem? (i := 41) rfl))) (ty := (.object "com/example/muster/muster/StrategicAction")) (by decide)).ext Ext117
    have F4_b : Fld Z h117 b "com/example/muster/muster/RuleBot$Rule" "finish" "Lcom/example/muster/muster/StrategicAction;" .null := (D_b (Or.inr (hw _ (List.mem_of_getElem? (i := 43) rfl))) (ty := (.object "com/example/muster/muster/StrategicAction")) (by decide)).ext Ext117
    have F5_b : Fld Z h117 b "com/example/muster/muster/RuleBot$Rule" "trainsWhileFinishing" "Z" (.int (0 : Int32)) := (D_b (Or.inr (hw _ (List.mem_of_getElem? (i := 45) rfl))) (ty := .boolean) (by decide)).ext Ext117
    obtain ⟨_, _, ⟨T120, L120, k120, n120⟩, -, X120, ⟨Lc120, hQ120, l120, y120, z120⟩, st120⟩ := X117.specialBack hx (y := (⟨"com/example/muster/muster/RuleBot$Rule", "<init>", "(Ljava/lang/String;Lcom/example/muster/muster/UnitType;ILcom/example/muster/muster/StrategicAction;Lcom/example/muster/muster/StrategicAction;Z)V"⟩ : MethodName)) rfl hown117 (mvT hZ117 (hw _ (List.mem_of_getElem? (i := 23) rfl))) (mvT hZ117 (hw _ (List.mem_of_getElem? (i := 24) rfl))) (mvT hZ117 (hw _ (List.mem_of_getElem? (i := 25) rfl))) (by decide) (backOf (W := 1) (rmC l Z a0 hw [] b nm p5 tr fi tw h117 n0 Z119 E_b_118 F0_b F1_b F2_b F3_b F4_b F5_b g_b) hZ117 (hw _ (List.mem_of_getElem? (i := 25) rfl)) (hw _ (List.mem_of_getElem? (i := 14) rfl)) (by decide) (by decide)) (g := (mkF m 76 #[.val (.int p1), .val (.int p2), .val (.int p3), .val (.int p4), .val (.int p5), .val (.int kt), .val (.int kf), .val (.int kd), .val (.int tw), .val (.ref tr), .val (.ref fi), .val (.ref de), .unset, .unset, .unset] [(.int tw), (.ref fi), (.ref tr), (.int p5), .null, (.ref nm), (.ref b), (.ref b)])) rfl (by rw [hml]; rfl) (Steps.refl _) (a := b) (argsL := [(.ref nm), .null, (.int p5), (.ref tr), (.ref fi), (.int tw)]) (rest := [(.ref b)]) (lenOf pd_2 rfl) rfl (by show 2 * 0 + _ ≤ _; exact Nat.le_of_eq rfl) (hb hby at_76) (fun _ _ => ⟨rfl, e117, (by decide : 3 + 0 ≤ _), (by decide : 26 + 0 ≤ _)⟩)
    dsimp only [Pt.U, Pt.locs, Pt.cells, Pt.slots] at X120 l120 y120 z120 st120 hQ120
    subst l120 y120 z120
    obtain ⟨rfl, N120q, K120, E120, F3120, F4120, F5120⟩ := hQ120
    have N120 := Fr.app N113 N120q
    rw [own_narz hj_tw] at F5120
    have Z121 : n0 ≤ T120.heap.size := Nat.le_trans Z119 (K120.1)
    have hk122 := Nat.le_trans hk117 (K120.1)
    have pre123 : ∀ t_, Steps p.tables e below (T120.setTop (mkF m 85 #[.val (.int p1), .val (.int p2), .val (.int p3), .val (.int p4), .val (.int p5), .val (.int kt), .val (.int kf), .val (.int kd), .val (.int tw), .val (.ref tr), .val (.ref fi), .val (.ref de), .val (.ref b), .unset, .unset] [(.ref de), (.ref b)])) t_ → Steps p.tables e below (s₁.setTop (entryFrame m #[(.int p1), (.int p2), (.int p3), (.int p4), (.int p5)] maxLocals)) t_ := fun t_ k_ => pre114 _ (by
      show Steps p.tables e below (T113.setTop (mkF m 59 #[.val (.int p1), .val (.int p2), .val (.int p3), .val (.int p4), .val (.int p5), .val (.int kt), .val (.int kf), .val (.int kd), .val (.int tw), .val (.ref tr), .val (.ref fi), .unset, .unset, .unset, .unset] [(.ref de)])) _
      refine XS.astore X113.here hx rfl (hb hby at_59) rfl rfl (l' := #[.val (.int p1), .val (.int p2), .val (.int p3), .val (.int p4), .val (.int p5), .val (.int kt), .val (.int kf), .val (.int kd), .val (.int tw), .val (.ref tr), .val (.ref fi), .val (.ref de), .unset, .unset, .unset]) rfl ?_
      show Steps p.tables e below (T113.setTop (mkF m 61 #[.val (.int p1), .val (.int p2), .val (.int p3), .val (.int p4), .val (.int p5), .val (.int kt), .val (.int kf), .val (.int kd), .val (.int tw), .val (.ref tr), .val (.ref fi), .val (.ref de), .unset, .unset, .unset] [])) _
      refine st115 _ ?_
      show Steps p.tables e below (T115.setTop (mkF m 64 #[.val (.int p1), .val (.int p2), .val (.int p3), .val (.int p4), .val (.int p5), .val (.int kt), .val (.int kf), .val (.int kd), .val (.int tw), .val (.ref tr), .val (.ref fi), .val (.ref de), .unset, .unset, .unset] [(.ref b)])) _
      refine XS.dup X115.here hx rfl (hb hby at_64) rfl rfl ?_
      show Steps p.tables e below (T115.setTop (mkF m 65 #[.val (.int p1), .val (.int p2), .val (.int p3), .val (.int p4), .val (.int p5), .val (.int kt), .val (.int kf), .val (.int kd), .val (.int tw), .val (.ref tr), .val (.ref fi), .val (.ref de), .unset, .unset, .unset] [(.ref b), (.ref b)])) _
      refine st117 _ ?_
      show Steps p.tables e below (T117.setTop (mkF m 67 #[.val (.int p1), .val (.int p2), .val (.int p3), .val (.int p4), .val (.int p5), .val (.int kt), .val (.int kf), .val (.int kd), .val (.int tw), .val (.ref tr), .val (.ref fi), .val (.ref de), .unset, .unset, .unset] [(.ref nm), (.ref b), (.ref b)])) _
      refine XS.aconstNull X117.here hx rfl (hb hby at_67) ?_
      show Steps p.tables e below (T117.setTop (mkF m 68 #[.val (.int p1), .val (.int p2), .val (.int p3), .val (.int p4), .val (.int p5), .val (.int kt), .val (.int kf), .val (.int kd), .val (.int tw), .val (.ref tr), .val (.ref fi), .val (.ref de), .unset, .unset, .unset] [.null, (.ref nm), (.ref b), (.ref b)])) _
      refine XS.iload X117.here hx rfl (hb hby at_68) rfl ?_
      show Steps p.tables e below (T117.setTop (mkF m 70 #[.val (.int p1), .val (.int p2), .val (.int p3), .val (.int p4), .val (.int p5), .val (.int kt), .val (.int kf), .val (.int kd), .val (.int tw), .val (.ref tr), .val (.ref fi), .val (.ref de), .unset, .unset, .unset] [(.int p5), .null, (.ref nm), (.ref b), (.ref b)])) _
      refine XS.aload X117.here hx rfl (hb hby at_70) rfl rfl ?_
      show Steps p.tables e below (T117.setTop (mkF m 72 #[.val (.int p1), .val (.int p2), .val (.int p3), .val (.int p4), .val (.int p5), .val (.int kt), .val (.int kf), .val (.int kd), .val (.int tw), .val (.ref tr), .val (.ref fi), .val (.ref de), .unset, .unset, .unset] [(.ref tr), (.int p5), .null, (.ref nm), (.ref b), (.ref b)])) _
      refine XS.aload X117.here hx rfl (hb hby at_72) rfl rfl ?_
      show Steps p.tables e below (T117.setTop (mkF m 74 #[.val (.int p1), .val (.int p2), .val (.int p3), .val (.int p4), .val (.int p5), .val (.int kt), .val (.int kf), .val (.int kd), .val (.int tw), .val (.ref tr), .val (.ref fi), .val (.ref de), .unset, .unset, .unset] [(.ref fi), (.ref tr), (.int p5), .null, (.ref nm), (.ref b), (.ref b)])) _
      refine XS.iload X117.here hx rfl (hb hby at_74) rfl ?_
      show Steps p.tables e below (T117.setTop (mkF m 76 #[.val (.int p1), .val (.int p2), .val (.int p3), .val (.int p4), .val (.int p5), .val (.int kt), .val (.int kf), .val (.int kd), .val (.int tw), .val (.ref tr), .val (.ref fi), .val (.ref de), .unset, .unset, .unset] [(.int tw), (.ref fi), (.ref tr), (.int p5), .null, (.ref nm), (.ref b), (.ref b)])) _
      refine st120.trans ?_
      show Steps p.tables e below (T120.setTop (mkF m 79 #[.val (.int p1), .val (.int p2), .val (.int p3), .val (.int p4), .val (.int p5), .val (.int kt), .val (.int kf), .val (.int kd), .val (.int tw), .val (.ref tr), .val (.ref fi), .val (.ref de), .unset, .unset, .unset] [(.ref b)])) _
      refine XS.astore X120.here hx rfl (hb hby at_79) rfl rfl (l' := #[.val (.int p1), .val (.int p2), .val (.int p3), .val (.int p4), .val (.int p5), .val (.int kt), .val (.int kf), .val (.int kd), .val (.int tw), .val (.ref tr), .val (.ref fi), .val (.ref de), .val (.ref b), .unset, .unset]) rfl ?_
      show Steps p.tables e below (T120.setTop (mkF m 81 #[.val (.int p1), .val (.int p2), .val (.int p3), .val (.int p4), .val (.int p5), .val (.int kt), .val (.int kf), .val (.int kd), .val (.int tw), .val (.ref tr), .val (.ref fi), .val (.ref de), .val (.ref b), .unset, .unset] [])) _
      refine XS.aload X120.here hx rfl (hb hby at_81) rfl rfl ?_
      show Steps p.tables e below (T120.setTop (mkF m 83 #[.val (.int p1), .val (.int p2), .val (.int p3), .val (.int p4), .val (.int p5), .val (.int kt), .val (.int kf), .val (.int kd), .val (.int tw), .val (.ref tr), .val (.ref fi), .val (.ref de), .val (.ref b), .unset, .unset] [(.ref b)])) _
      refine XS.aload X120.here hx rfl (hb hby at_83) rfl rfl ?_
      exact k_)
    by_cases hz : tw = 0
    · skip
      obtain ⟨cq124, kq124, q124a, q124b, q124c⟩ := isOf hZ117 rfl E120
      obtain ⟨_, _, ⟨T124, L124, k124, n124⟩, -, X124, ⟨Lc124, hQ124, l124, y124, z124⟩, st124⟩ := X120.virtualBack hx (y := (⟨"com/example/muster/muster/RuleBot$Rule", "besides", "(Lcom/example/muster/muster/StrategicAction;)Lcom/example/muster/muster/StrategicAction;"⟩ : MethodName)) (z := (⟨"com/example/muster/muster/RuleBot$Rule", "besides", "(Lcom/example/muster/muster/StrategicAction;)Lcom/example/muster/muster/StrategicAction;"⟩ : MethodName)) hown117 (mvT hZ117 (hw _ (List.mem_of_getElem? (i := 46) rfl))) (mvT hZ117 (hw _ (List.mem_of_getElem? (i := 47) rfl))) (notFace_of_selects (args := #[]) (mvT hZ117 (hw _ (List.mem_of_getElem? (i := 49) rfl)))) (mvT hZ117 (hw _ (List.mem_of_getElem? (i := 49) rfl))) (mvT hZ117 (hw _ (List.mem_of_getElem? (i := 48) rfl))) (by decide) (backOf (W := 0) (rmB0 l Z a0 hw [] b de tr fi tw T120.heap n0 Z121 F3120 F4120 F5120 hz) hZ117 (hw _ (List.mem_of_getElem? (i := 50) rfl)) (hw _ (List.mem_of_getElem? (i := 14) rfl)) (by decide) (by decide)) q124a q124c (g := (mkF m 85 #[.val (.int p1), .val (.int p2), .val (.int p3), .val (.int p4), .val (.int p5), .val (.int kt), .val (.int kf), .val (.int kd), .val (.int tw), .val (.ref tr), .val (.ref fi), .val (.ref de), .val (.ref b), .unset, .unset] [(.ref de), (.ref b)])) rfl (by rw [hml]; rfl) (Steps.refl _) (argsL := [(.ref de)]) (rest := []) (lenOf pd_3 rfl) rfl (by show 2 * 0 + _ ≤ _; exact Nat.le_of_eq rfl) (hb hby at_85) (fun _ _ => ⟨rfl, rfl, (by decide : 3 + 0 ≤ _), (by decide : 26 + 0 ≤ _)⟩)
      dsimp only [Pt.U, Pt.locs, Pt.cells, Pt.slots] at X124 l124 y124 z124 st124 hQ124
      subst l124 y124 z124
      obtain ⟨rfl, N124q, e124⟩ := hQ124
      have N124 := Fr.app N120 N124q
      have pre125 : ∀ t_, Steps p.tables e below (T124.setTop (mkF m 130 #[.val (.int p1), .val (.int p2), .val (.int p3), .val (.int p4), .val (.int p5), .val (.int kt), .val (.int kf), .val (.int kd), .val (.int tw), .val (.ref tr), .val (.ref fi), .val (.ref de), .val (.ref b), .val .null, .val .null] [(.int (1 : Int32))])) t_ → Steps p.tables e below (s₁.setTop (entryFrame m #[(.int p1), (.int p2), (.int p3), (.int p4), (.int p5)] maxLocals)) t_ := fun t_ k_ => pre123 _ (by
        show Steps p.tables e below (T120.setTop (mkF m 85 #[.val (.int p1), .val (.int p2), .val (.int p3), .val (.int p4), .val (.int p5), .val (.int kt), .val (.int kf), .val (.int kd), .val (.int tw), .val (.ref tr), .val (.ref fi), .val (.ref de), .val (.ref b), .unset, .unset] [(.ref de), (.ref b)])) _
        refine st124.trans ?_
        show Steps p.tables e below (T124.setTop (mkF m 88 #[.val (.int p1), .val (.int p2), .val (.int p3), .val (.int p4), .val (.int p5), .val (.int kt), .val (.int kf), .val (.int kd), .val (.int tw), .val (.ref tr), .val (.ref fi), .val (.ref de), .val (.ref b), .unset, .unset] [.null])) _
        refine XS.astore X124.here hx rfl (hb hby at_88) rfl rfl (l' := #[.val (.int p1), .val (.int p2), .val (.int p3), .val (.int p4), .val (.int p5), .val (.int kt), .val (.int kf), .val (.int kd), .val (.int tw), .val (.ref tr), .val (.ref fi), .val (.ref de), .val (.ref b), .val .null, .unset]) rfl ?_
        show Steps p.tables e below (T124.setTop (mkF m 90 #[.val (.int p1), .val (.int p2), .val (.int p3), .val (.int p4), .val (.int p5), .val (.int kt), .val (.int kf), .val (.int kd), .val (.int tw), .val (.ref tr), .val (.ref fi), .val (.ref de), .val (.ref b), .val .null, .unset] [])) _
        refine XS.iload X124.here hx rfl (hb hby at_90) rfl ?_
        show Steps p.tables e below (T124.setTop (mkF m 92 #[.val (.int p1), .val (.int p2), .val (.int p3), .val (.int p4), .val (.int p5), .val (.int kt), .val (.int kf), .val (.int kd), .val (.int tw), .val (.ref tr), .val (.ref fi), .val (.ref de), .val (.ref b), .val .null, .unset] [(.int tw)])) _
        refine XS.ifNo X124.here hx rfl (hb hby at_92) rfl ((if0 _ _).trans (teq hz).2) ?_
        show Steps p.tables e below (T124.setTop (mkF m 95 #[.val (.int p1), .val (.int p2), .val (.int p3), .val (.int p4), .val (.int p5), .val (.int kt), .val (.int kf), .val (.int kd), .val (.int tw), .val (.ref tr), .val (.ref fi), .val (.ref de), .val (.ref b), .val .null, .unset] [])) _
        refine XS.aconstNull X124.here hx rfl (hb hby at_95) ?_
        show Steps p.tables e below (T124.setTop (mkF m 96 #[.val (.int p1), .val (.int p2), .val (.int p3), .val (.int p4), .val (.int p5), .val (.int kt), .val (.int kf), .val (.int kd), .val (.int tw), .val (.ref tr), .val (.ref fi), .val (.ref de), .val (.ref b), .val .null, .unset] [.null])) _
        refine XS.astore X124.here hx rfl (hb hby at_96) rfl rfl (l' := #[.val (.int p1), .val (.int p2), .val (.int p3), .val (.int p4), .val (.int p5), .val (.int kt), .val (.int kf), .val (.int kd), .val (.int tw), .val (.ref tr), .val (.ref fi), .val (.ref de), .val (.ref b), .val .null, .val .null]) rfl ?_
        show Steps p.tables e below (T124.setTop (mkF m 98 #[.val (.int p1), .val (.int p2), .val (.int p3), .val (.int p4), .val (.int p5), .val (.int kt), .val (.int kf), .val (.int kd), .val (.int tw), .val (.ref tr), .val (.ref fi), .val (.ref de), .val (.ref b), .val .null, .val .null] [])) _
        refine XS.goto X124.here hx rfl (pc0 := 98) (pc' := 118) rfl (hb hby at_98) (by decide) (by decide) ?_
        show Steps p.tables e below (T124.setTop (mkF m 118 #[.val (.int p1), .val (.int p2), .val (.int p3), .val (.int p4), .val (.int p5), .val (.int kt), .val (.int kf), .val (.int kd), .val (.int tw), .val (.ref tr), .val (.ref fi), .val (.ref de), .val (.ref b), .val .null, .val .null] [])) _
        refine XS.aload X124.here hx rfl (hb hby at_118) rfl rfl ?_
        show Steps p.tables e below (T124.setTop (mkF m 120 #[.val (.int p1), .val (.int p2), .val (.int p3), .val (.int p4), .val (.int p5), .val (.int kt), .val (.int kf), .val (.int kd), .val (.int tw), .val (.ref tr), .val (.ref fi), .val (.ref de), .val (.ref b), .val .null, .val .null] [.null])) _
        refine XS.aload X124.here hx rfl (hb hby at_120) rfl rfl ?_
        show Steps p.tables e below (T124.setTop (mkF m 122 #[.val (.int p1), .val (.int p2), .val (.int p3), .val (.int p4), .val (.int p5), .val (.int kt), .val (.int kf), .val (.int kd), .val (.int tw), .val (.ref tr), .val (.ref fi), .val (.ref de), .val (.ref b), .val .null, .val .null] [.null, .null])) _
        refine Jvm.RoadKit.acmp (g := (mkF m 122 #[.val (.int p1), .val (.int p2), .val (.int p3), .val (.int p4), .val (.int p5), .val (.int kt), .val (.int kf), .val (.int kd), .val (.int tw), .val (.ref tr), .val (.ref fi), .val (.ref de), .val (.ref b), .val .null, .val .null] [.null, .null])) X124 hx rfl rfl rfl (pc0 := 122) (pc' := 125) (same := true) rfl (hb hby at_122) rfl (decide_eq_true rfl) (by decide) (by decide) ?_
        show Steps p.tables e below (T124.setTop (mkF m 125 #[.val (.int p1), .val (.int p2), .val (.int p3), .val (.int p4), .val (.int p5), .val (.int kt), .val (.int kf), .val (.int kd), .val (.int tw), .val (.ref tr), .val (.ref fi), .val (.ref de), .val (.ref b), .val .null, .val .null] [])) _
        refine XS.iconst X124.here hx rfl (hb hby at_125) ?_
        show Steps p.tables e below (T124.setTop (mkF m 126 #[.val (.int p1), .val (.int p2), .val (.int p3), .val (.int p4), .val (.int p5), .val (.int kt), .val (.int kf), .val (.int kd), .val (.int tw), .val (.ref tr), .val (.ref fi), .val (.ref de), .val (.ref b), .val .null, .val .null] [(.int (1 : Int32))])) _
        refine XS.goto X124.here hx rfl (pc0 := 126) (pc' := 130) rfl (hb hby at_126) (by decide) (by decide) ?_
        exact k_)
      obtain ⟨fs, hr, hrun, hended, hWr, hW1, hW2, hsame⟩ := Jvm.Stand.leaveW (s := s) X124 hS117 (by rw [e124]; exact hk122) (v := some (.int (1 : Int32))) (fun h => by rw [Bd.returns] at h; cases h)
      refine ⟨_, _, pre125 _ ?_, hrun, hended, _, _, rfl, ?_, hWr, hW1, hW2, hsame.mono (by decide) (by decide)⟩
      · show Steps p.tables e below (T124.setTop (mkF m 130 #[.val (.int p1), .val (.int p2), .val (.int p3), .val (.int p4), .val (.int p5), .val (.int kt), .val (.int kf), .val (.int kd), .val (.int tw), .val (.ref tr), .val (.ref fi), .val (.ref de), .val (.ref b), .val .null, .val .null] [(.int (1 : Int32))])) _
        exact retN X124 hx (t := .boolean) Bd.returns (by simp) (hb hby at_130) hr
      · show Qrm0 Z p1 p2 p3 p4 p5 en0 en1 en2 en3 en4 en5 en6 en7 en8 h0 n0 _ T124.heap _
        rw [e124]
        exact ⟨rfl, N124⟩
    · skip
      by_cases he : kd = kf
      · skip
        have hs : de = fi := by rw [hv_de, hv_fi, he]
        obtain ⟨cq126, kq126, q126a, q126b, q126c⟩ := isOf hZ117 rfl E120
        obtain ⟨_, _, ⟨T126, L126, k126, n126⟩, -, X126, ⟨Lc126, hQ126, l126, y126, z126⟩, st126⟩ := X120.virtualBack hx (y := (⟨"com/example/muster/muster/RuleBot$Rule", "besides", "(Lcom/example/muster/muster/StrategicAction;)Lcom/example/muster/muster/StrategicAction;"⟩ : MethodName)) (z := (⟨"com/example/muster/muster/RuleBot$Rule", "besides", "(Lcom/example/muster/muster/StrategicAction;)Lcom/example/muster/muster/StrategicAction;"⟩ : MethodName)) hown117 (mvT hZ117 (hw _ (List.mem_of_getElem? (i := 46) rfl))) (mvT hZ117 (hw _ (List.mem_of_getElem? (i := 47) rfl))) (notFace_of_selects (args := #[]) (mvT hZ117 (hw _ (List.mem_of_getElem? (i := 49) rfl)))) (mvT hZ117 (hw _ (List.mem_of_getElem? (i := 49) rfl))) (mvT hZ117 (hw _ (List.mem_of_getElem? (i := 48) rfl))) (by decide) (backOf (W := 0) (rmB1 l Z a0 hw [] b de tr fi tw T120.heap n0 Z121 F3120 F4120 F5120 hz hs) hZ117 (hw _ (List.mem_of_getElem? (i := 50) rfl)) (hw _ (List.mem_of_getElem? (i := 14) rfl)) (by decide) (by decide)) q126a q126c (g := (mkF m 85 #[.val (.int p1), .val (.int p2), .val (.int p3), .val (.int p4), .val (.int p5), .val (.int kt), .val (.int kf), .val (.int kd), .val (.int tw), .val (.ref tr), .val (.ref fi), .val (.ref de), .val (.ref b), .unset, .unset] [(.ref de), (.ref b)])) rfl (by rw [hml]; rfl) (Steps.refl _) (argsL := [(.ref de)]) (rest := []) (lenOf pd_3 rfl) rfl (by show 2 * 0 + _ ≤ _; exact Nat.le_of_eq rfl) (hb hby at_85) (fun _ _ => ⟨rfl, rfl, (by decide : 3 + 0 ≤ _), (by decide : 26 + 0 ≤ _)⟩)
        dsimp only [Pt.U, Pt.locs, Pt.cells, Pt.slots] at X126 l126 y126 z126 st126 hQ126
        subst l126 y126 z126
        obtain ⟨rfl, N126q, e126⟩ := hQ126
        have N126 := Fr.app N120 N126q
        have pre127 : ∀ t_, Steps p.tables e below (T126.setTop (mkF m 130 #[.val (.int p1), .val (.int p2), .val (.int p3), .val (.int p4), .val (.int p5), .val (.int kt), .val (.int kf), .val (.int kd), .val (.int tw), .val (.ref tr), .val (.ref fi), .val (.ref de), .val (.ref b), .val (.ref tr), .val (.ref tr)] [(.int (1 : Int32))])) t_ → Steps p.tables e below (s₁.setTop (entryFrame m #[(.int p1), (.int p2), (.int p3), (.int p4), (.int p5)] maxLocals)) t_ := fun t_ k_ => pre123 _ (by
          show Steps p.tables e below (T120.setTop (mkF m 85 #[.val (.int p1), .val (.int p2), .val (.int p3), .val (.int p4), .val (.int p5), .val (.int kt), .val (.int kf), .val (.int kd), .val (.int tw), .val (.ref tr), .val (.ref fi), .val (.ref de), .val (.ref b), .unset, .unset] [(.ref de), (.ref b)])) _
          refine st126.trans ?_
          show Steps p.tables e below (T126.setTop (mkF m 88 #[.val (.int p1), .val (.int p2), .val (.int p3), .val (.int p4), .val (.int p5), .val (.int kt), .val (.int kf), .val (.int kd), .val (.int tw), .val (.ref tr), .val (.ref fi), .val (.ref de), .val (.ref b), .unset, .unset] [(.ref tr)])) _
          refine XS.astore X126.here hx rfl (hb hby at_88) rfl rfl (l' := #[.val (.int p1), .val (.int p2), .val (.int p3), .val (.int p4), .val (.int p5), .val (.int kt), .val (.int kf), .val (.int kd), .val (.int tw), .val (.ref tr), .val (.ref fi), .val (.ref de), .val (.ref b), .val (.ref tr), .unset]) rfl ?_
          show Steps p.tables e below (T126.setTop (mkF m 90 #[.val (.int p1), .val (.int p2), .val (.int p3), .val (.int p4), .val (.int p5), .val (.int kt), .val (.int kf), .val (.int kd), .val (.int tw), .val (.ref tr), .val (.ref fi), .val (.ref de), .val (.ref b), .val (.ref tr), .unset] [])) _
          refine XS.iload X126.here hx rfl (hb hby at_90) rfl ?_
          show Steps p.tables e below (T126.setTop (mkF m 92 #[.val (.int p1), .val (.int p2), .val (.int p3), .val (.int p4), .val (.int p5), .val (.int kt), .val (.int kf), .val (.int kd), .val (.int tw), .val (.ref tr), .val (.ref fi), .val (.ref de), .val (.ref b), .val (.ref tr), .unset] [(.int tw)])) _
          refine XS.ifYes X126.here hx rfl (pc0 := 92) (pc' := 101) rfl (hb hby at_92) rfl ((if0 _ _).trans (feq hz).2) (by decide) (by decide) ?_
          show Steps p.tables e below (T126.setTop (mkF m 101 #[.val (.int p1), .val (.int p2), .val (.int p3), .val (.int p4), .val (.int p5), .val (.int kt), .val (.int kf), .val (.int kd), .val (.int tw), .val (.ref tr), .val (.ref fi), .val (.ref de), .val (.ref b), .val (.ref tr), .unset] [])) _
          refine XS.iload X126.here hx rfl (hb hby at_101) rfl ?_
          show Steps p.tables e below (T126.setTop (mkF m 103 #[.val (.int p1), .val (.int p2), .val (.int p3), .val (.int p4), .val (.int p5), .val (.int kt), .val (.int kf), .val (.int kd), .val (.int tw), .val (.ref tr), .val (.ref fi), .val (.ref de), .val (.ref b), .val (.ref tr), .unset] [(.int kd)])) _
          refine XS.iload X126.here hx rfl (hb hby at_103) rfl ?_
          show Steps p.tables e below (T126.setTop (mkF m 105 #[.val (.int p1), .val (.int p2), .val (.int p3), .val (.int p4), .val (.int p5), .val (.int kt), .val (.int kf), .val (.int kd), .val (.int tw), .val (.ref tr), .val (.ref fi), .val (.ref de), .val (.ref b), .val (.ref tr), .unset] [(.int kf), (.int kd)])) _
          refine XS.icmpNo X126.here hx rfl (hb hby at_105) rfl (teq he).2 ?_
          show Steps p.tables e below (T126.setTop (mkF m 108 #[.val (.int p1), .val (.int p2), .val (.int p3), .val (.int p4), .val (.int p5), .val (.int kt), .val (.int kf), .val (.int kd), .val (.int tw), .val (.ref tr), .val (.ref fi), .val (.ref de), .val (.ref b), .val (.ref tr), .unset] [])) _
          refine XS.aload X126.here hx rfl (hb hby at_108) rfl rfl ?_
          show Steps p.tables e below (T126.setTop (mkF m 110 #[.val (.int p1), .val (.int p2), .val (.int p3), .val (.int p4), .val (.int p5), .val (.int kt), .val (.int kf), .val (.int kd), .val (.int tw), .val (.ref tr), .val (.ref fi), .val (.ref de), .val (.ref b), .val (.ref tr), .unset] [(.ref tr)])) _
          refine XS.astore X126.here hx rfl (hb hby at_110) rfl rfl (l' := #[.val (.int p1), .val (.int p2), .val (.int p3), .val (.int p4), .val (.int p5), .val (.int kt), .val (.int kf), .val (.int kd), .val (.int tw), .val (.ref tr), .val (.ref fi), .val (.ref de), .val (.ref b), .val (.ref tr), .val (.ref tr)]) rfl ?_
          show Steps p.tables e below (T126.setTop (mkF m 112 #[.val (.int p1), .val (.int p2), .val (.int p3), .val (.int p4), .val (.int p5), .val (.int kt), .val (.int kf), .val (.int kd), .val (.int tw), .val (.ref tr), .val (.ref fi), .val (.ref de), .val (.ref b), .val (.ref tr), .val (.ref tr)] [])) _
          refine XS.goto X126.here hx rfl (pc0 := 112) (pc' := 118) rfl (hb hby at_112) (by decide) (by decide) ?_
          show Steps p.tables e below (T126.setTop (mkF m 118 #[.val (.int p1), .val (.int p2), .val (.int p3), .val (.int p4), .val (.int p5), .val (.int kt), .val (.int kf), .val (.int kd), .val (.int tw), .val (.ref tr), .val (.ref fi), .val (.ref de), .val (.ref b), .val (.ref tr), .val (.ref tr)] [])) _
          refine XS.aload X126.here hx rfl (hb hby at_118) rfl rfl ?_
          show Steps p.tables e below (T126.setTop (mkF m 120 #[.val (.int p1), .val (.int p2), .val (.int p3), .val (.int p4), .val (.int p5), .val (.int kt), .val (.int kf), .val (.int kd), .val (.int tw), .val (.ref tr), .val (.ref fi), .val (.ref de), .val (.ref b), .val (.ref tr), .val (.ref tr)] [(.ref tr)])) _
          refine XS.aload X126.here hx rfl (hb hby at_120) rfl rfl ?_
          show Steps p.tables e below (T126.setTop (mkF m 122 #[.val (.int p1), .val (.int p2), .val (.int p3), .val (.int p4), .val (.int p5), .val (.int kt), .val (.int kf), .val (.int kd), .val (.int tw), .val (.ref tr), .val (.ref fi), .val (.ref de), .val (.ref b), .val (.ref tr), .val (.ref tr)] [(.ref tr), (.ref tr)])) _
          refine Jvm.RoadKit.acmp (g := (mkF m 122 #[.val (.int p1), .val (.int p2), .val (.int p3), .val (.int p4), .val (.int p5), .val (.int kt), .val (.int kf), .val (.int kd), .val (.int tw), .val (.ref tr), .val (.ref fi), .val (.ref de), .val (.ref b), .val (.ref tr), .val (.ref tr)] [(.ref tr), (.ref tr)])) X126 hx rfl rfl rfl (pc0 := 122) (pc' := 125) (same := true) rfl (hb hby at_122) rfl (decide_eq_true rfl) (by decide) (by decide) ?_
          show Steps p.tables e below (T126.setTop (mkF m 125 #[.val (.int p1), .val (.int p2), .val (.int p3), .val (.int p4), .val (.int p5), .val (.int kt), .val (.int kf), .val (.int kd), .val (.int tw), .val (.ref tr), .val (.ref fi), .val (.ref de), .val (.ref b), .val (.ref tr), .val (.ref tr)] [])) _
          refine XS.iconst X126.here hx rfl (hb hby at_125) ?_
          show Steps p.tables e below (T126.setTop (mkF m 126 #[.val (.int p1), .val (.int p2), .val (.int p3), .val (.int p4), .val (.int p5), .val (.int kt), .val (.int kf), .val (.int kd), .val (.int tw), .val (.ref tr), .val (.ref fi), .val (.ref de), .val (.ref b), .val (.ref tr), .val (.ref tr)] [(.int (1 : Int32))])) _
          refine XS.goto X126.here hx rfl (pc0 := 126) (pc' := 130) rfl (hb hby at_126) (by decide) (by decide) ?_
          exact k_)
        obtain ⟨fs, hr, hrun, hended, hWr, hW1, hW2, hsame⟩ := Jvm.Stand.leaveW (s := s) X126 hS117 (by rw [e126]; exact hk122) (v := some (.int (1 : Int32))) (fun h => by rw [Bd.returns] at h; cases h)
        refine ⟨_, _, pre127 _ ?_, hrun, hended, _, _, rfl, ?_, hWr, hW1, hW2, hsame.mono (by decide) (by decide)⟩
        · show Steps p.tables e below (T126.setTop (mkF m 130 #[.val (.int p1), .val (.int p2), .val (.int p3), .val (.int p4), .val (.int p5), .val (.int kt), .val (.int kf), .val (.int kd), .val (.int tw), .val (.ref tr), .val (.ref fi), .val (.ref de), .val (.ref b), .val (.ref tr), .val (.ref tr)] [(.int (1 : Int32))])) _
          exact retN X126 hx (t := .boolean) Bd.returns (by simp) (hb hby at_130) hr
        · show Qrm0 Z p1 p2 p3 p4 p5 en0 en1 en2 en3 en4 en5 en6 en7 en8 h0 n0 _ T126.heap _
          rw [e126]
          exact ⟨rfl, N126⟩
      · skip
        have hs : ¬ de = fi := by rw [hv_de, hv_fi]; exact (own_actF hd F_0 F_1 F_2 F_3 F_4 F_5 F_6 F_7 F_8).ne (own_actF hf F_0 F_1 F_2 F_3 F_4 F_5 F_6 F_7 F_8) (own_vne he)
        obtain ⟨cq128, kq128, q128a, q128b, q128c⟩ := isOf hZ117 rfl E120
        obtain ⟨_, _, ⟨T128, L128, k128, n128⟩, -, X128, ⟨Lc128, hQ128, l128, y128, z128⟩, st128⟩ := X120.virtualBack hx (y := (⟨"com/example/muster/muster/RuleBot$Rule", "besides", "(Lcom/example/muster/muster/StrategicAction;)Lcom/example/muster/muster/StrategicAction;"⟩ : MethodName)) (z := (⟨"com/example/muster/muster/RuleBot$Rule", "besides", "(Lcom/example/muster/muster/StrategicAction;)Lcom/example/muster/muster/StrategicAction;"⟩ : MethodName)) hown117 (mvT hZ117 (hw _ (List.mem_of_getElem? (i := 46) rfl))) (mvT hZ117 (hw _ (List.mem_of_getElem? (i := 47) rfl))) (notFace_of_selects (args := #[]) (mvT hZ117 (hw _ (List.mem_of_getElem? (i := 49) rfl)))) (mvT hZ117 (hw _ (List.mem_of_getElem? (i := 49) rfl))) (mvT hZ117 (hw _ (List.mem_of_getElem? (i := 48) rfl))) (by decide) (backOf (W := 0) (rmB2 l Z a0 hw [] b de tr fi tw T120.heap n0 Z121 F3120 F4120 F5120 hz hs) hZ117 (hw _ (List.mem_of_getElem? (i := 50) rfl)) (hw _ (List.mem_of_getElem? (i := 14) rfl)) (by decide) (by decide)) q128a q128c (g := (mkF m 85 #[.val (.int p1), .val (.int p2), .val (.int p3), .val (.int p4), .val (.int p5), .val (.int kt), .val (.int kf), .val (.int kd), .val (.int tw), .val (.ref tr), .val (.ref fi), .val (.ref de), .val (.ref b), .unset, .unset] [(.ref de), (.ref b)])) rfl (by rw [hml]; rfl) (Steps.refl _) (argsL := [(.ref de)]) (rest := []) (lenOf pd_3 rfl) rfl (by show 2 * 0 + _ ≤ _; exact Nat.le_of_eq rfl) (hb hby at_85) (fun _ _ => ⟨rfl, rfl, (by decide : 3 + 0 ≤ _), (by decide : 26 + 0 ≤ _)⟩)
        dsimp only [Pt.U, Pt.locs, Pt.cells, Pt.slots] at X128 l128 y128 z128 st128 hQ128
        subst l128 y128 z128
        obtain ⟨rfl, N128q, e128⟩ := hQ128
        have N128 := Fr.app N120 N128q
        have pre129 : ∀ t_, Steps p.tables e below (T128.setTop (mkF m 130 #[.val (.int p1), .val (.int p2), .val (.int p3), .val (.int p4), .val (.int p5), .val (.int kt), .val (.int kf), .val (.int kd), .val (.int tw), .val (.ref tr), .val (.ref fi), .val (.ref de), .val (.ref b), .val .null, .val .null] [(.int (1 : Int32))])) t_ → Steps p.tables e below (s₁.setTop (entryFrame m #[(.int p1), (.int p2), (.int p3), (.int p4), (.int p5)] maxLocals)) t_ := fun t_ k_ => pre123 _ (by
          show Steps p.tables e below (T120.setTop (mkF m 85 #[.val (.int p1), .val (.int p2), .val (.int p3), .val (.int p4), .val (.int p5), .val (.int kt), .val (.int kf), .val (.int kd), .val (.int tw), .val (.ref tr), .val (.ref fi), .val (.ref de), .val (.ref b), .unset, .unset] [(.ref de), (.ref b)])) _
          refine st128.trans ?_
          show Steps p.tables e below (T128.setTop (mkF m 88 #[.val (.int p1), .val (.int p2), .val (.int p3), .val (.int p4), .val (.int p5), .val (.int kt), .val (.int kf), .val (.int kd), .val (.int tw), .val (.ref tr), .val (.ref fi), .val (.ref de), .val (.ref b), .unset, .unset] [.null])) _
          refine XS.astore X128.here hx rfl (hb hby at_88) rfl rfl (l' := #[.val (.int p1), .val (.int p2), .val (.int p3), .val (.int p4), .val (.int p5), .val (.int kt), .val (.int kf), .val (.int kd), .val (.int tw), .val (.ref tr), .val (.ref fi), .val (.ref de), .val (.ref b), .val .null, .unset]) rfl ?_
          show Steps p.tables e below (T128.setTop (mkF m 90 #[.val (.int p1), .val (.int p2), .val (.int p3), .val (.int p4), .val (.int p5), .val (.int kt), .val (.int kf), .val (.int kd), .val (.int tw), .val (.ref tr), .val (.ref fi), .val (.ref de), .val (.ref b), .val .null, .unset] [])) _
          refine XS.iload X128.here hx rfl (hb hby at_90) rfl ?_
          show Steps p.tables e below (T128.setTop (mkF m 92 #[.val (.int p1), .val (.int p2), .val (.int p3), .val (.int p4), .val (.int p5), .val (.int kt), .val (.int kf), .val (.int kd), .val (.int tw), .val (.ref tr), .val (.ref fi), .val (.ref de), .val (.ref b), .val .null, .unset] [(.int tw)])) _
          refine XS.ifYes X128.here hx rfl (pc0 := 92) (pc' := 101) rfl (hb hby at_92) rfl ((if0 _ _).trans (feq hz).2) (by decide) (by decide) ?_
          show Steps p.tables e below (T128.setTop (mkF m 101 #[.val (.int p1), .val (.int p2), .val (.int p3), .val (.int p4), .val (.int p5), .val (.int kt), .val (.int kf), .val (.int kd), .val (.int tw), .val (.ref tr), .val (.ref fi), .val (.ref de), .val (.ref b), .val .null, .unset] [])) _
          refine XS.iload X128.here hx rfl (hb hby at_101) rfl ?_
          show Steps p.tables e below (T128.setTop (mkF m 103 #[.val (.int p1), .val (.int p2), .val (.int p3), .val (.int p4), .val (.int p5), .val (.int kt), .val (.int kf), .val (.int kd), .val (.int tw), .val (.ref tr), .val (.ref fi), .val (.ref de), .val (.ref b), .val .null, .unset] [(.int kd)])) _
          refine XS.iload X128.here hx rfl (hb hby at_103) rfl ?_
          show Steps p.tables e below (T128.setTop (mkF m 105 #[.val (.int p1), .val (.int p2), .val (.int p3), .val (.int p4), .val (.int p5), .val (.int kt), .val (.int kf), .val (.int kd), .val (.int tw), .val (.ref tr), .val (.ref fi), .val (.ref de), .val (.ref b), .val .null, .unset] [(.int kf), (.int kd)])) _
          refine XS.icmpYes X128.here hx rfl (pc0 := 105) (pc' := 115) rfl (hb hby at_105) rfl (feq he).2 (by decide) (by decide) ?_
          show Steps p.tables e below (T128.setTop (mkF m 115 #[.val (.int p1), .val (.int p2), .val (.int p3), .val (.int p4), .val (.int p5), .val (.int kt), .val (.int kf), .val (.int kd), .val (.int tw), .val (.ref tr), .val (.ref fi), .val (.ref de), .val (.ref b), .val .null, .unset] [])) _
          refine XS.aconstNull X128.here hx rfl (hb hby at_115) ?_
          show Steps p.tables e below (T128.setTop (mkF m 116 #[.val (.int p1), .val (.int p2), .val (.int p3), .val (.int p4), .val (.int p5), .val (.int kt), .val (.int kf), .val (.int kd), .val (.int tw), .val (.ref tr), .val (.ref fi), .val (.ref de), .val (.ref b), .val .null, .unset] [.null])) _
          refine XS.astore X128.here hx rfl (hb hby at_116) rfl rfl (l' := #[.val (.int p1), .val (.int p2), .val (.int p3), .val (.int p4), .val (.int p5), .val (.int kt), .val (.int kf), .val (.int kd), .val (.int tw), .val (.ref tr), .val (.ref fi), .val (.ref de), .val (.ref b), .val .null, .val .null]) rfl ?_
          show Steps p.tables e below (T128.setTop (mkF m 118 #[.val (.int p1), .val (.int p2), .val (.int p3), .val (.int p4), .val (.int p5), .val (.int kt), .val (.int kf), .val (.int kd), .val (.int tw), .val (.ref tr), .val (.ref fi), .val (.ref de), .val (.ref b), .val .null, .val .null] [])) _
          refine XS.aload X128.here hx rfl (hb hby at_118) rfl rfl ?_
          show Steps p.tables e below (T128.setTop (mkF m 120 #[.val (.int p1), .val (.int p2), .val (.int p3), .val (.int p4), .val (.int p5), .val (.int kt), .val (.int kf), .val (.int kd), .val (.int tw), .val (.ref tr), .val (.ref fi), .val (.ref de), .val (.ref b), .val .null, .val .null] [.null])) _
          refine XS.aload X128.here hx rfl (hb hby at_120) rfl rfl ?_
          show Steps p.tables e below (T128.setTop (mkF m 122 #[.val (.int p1), .val (.int p2), .val (.int p3), .val (.int p4), .val (.int p5), .val (.int kt), .val (.int kf), .val (.int kd), .val (.int tw), .val (.ref tr), .val (.ref fi), .val (.ref de), .val (.ref b), .val .null, .val .null] [.null, .null])) _
          refine Jvm.RoadKit.acmp (g := (mkF m 122 #[.val (.int p1), .val (.int p2), .val (.int p3), .val (.int p4), .val (.int p5), .val (.int kt), .val (.int kf), .val (.int kd), .val (.int tw), .val (.ref tr), .val (.ref fi), .val (.ref de), .val (.ref b), .val .null, .val .null] [.null, .null])) X128 hx rfl rfl rfl (pc0 := 122) (pc' := 125) (same := true) rfl (hb hby at_122) rfl (decide_eq_true rfl) (by decide) (by decide) ?_
          show Steps p.tables e below (T128.setTop (mkF m 125 #[.val (.int p1), .val (.int p2), .val (.int p3), .val (.int p4), .val (.int p5), .val (.int kt), .val (.int kf), .val (.int kd), .val (.int tw), .val (.ref tr), .val (.ref fi), .val (.ref de), .val (.ref b), .val .null, .val .null] [])) _
          refine XS.iconst X128.here hx rfl (hb hby at_125) ?_
          show Steps p.tables e below (T128.setTop (mkF m 126 #[.val (.int p1), .val (.int p2), .val (.int p3), .val (.int p4), .val (.int p5), .val (.int kt), .val (.int kf), .val (.int kd), .val (.int tw), .val (.ref tr), .val (.ref fi), .val (.ref de), .val (.ref b), .val .null, .val .null] [(.int (1 : Int32))])) _
          refine XS.goto X128.here hx rfl (pc0 := 126) (pc' := 130) rfl (hb hby at_126) (by decide) (by decide) ?_
          exact k_)
        obtain ⟨fs, hr, hrun, hended, hWr, hW1, hW2, hsame⟩ := Jvm.Stand.leaveW (s := s) X128 hS117 (by rw [e128]; exact hk122) (v := some (.int (1 : Int32))) (fun h => by rw [Bd.returns] at h; cases h)
        refine ⟨_, _, pre129 _ ?_, hrun, hended, _, _, rfl, ?_, hWr, hW1, hW2, hsame.mono (by decide) (by decide)⟩
        · show Steps p.tables e below (T128.setTop (mkF m 130 #[.val (.int p1), .val (.int p2), .val (.int p3), .val (.int p4), .val (.int p5), .val (.int kt), .val (.int kf), .val (.int kd), .val (.int tw), .val (.ref tr), .val (.ref fi), .val (.ref de), .val (.ref b), .val .null, .val .null] [(.int (1 : Int32))])) _
          exact retN X128 hx (t := .boolean) Bd.returns (by simp) (hb hby at_130) hr
        · show Qrm0 Z p1 p2 p3 p4 p5 en0 en1 en2 en3 en4 en5 en6 en7 en8 h0 n0 _ T128.heap _
          rw [e128]
          exact ⟨rfl, N128⟩
  · skip
    obtain ⟨_, _, ⟨T130, L130, k130, n130⟩, -, X130, ⟨Lc130, hQ130, l130, y130, z130⟩, st130⟩ := Jvm.LawKit.callS X110 hx (y := (⟨"com/example/muster/muster/RuleBesidesPinLaw", "action", "(I)Lcom/example/muster/muster/StrategicAction;"⟩ : MethodName)) hown (mvT hZ (hw _ (List.mem_of_getElem? (i := 1) rfl))) (mvT hZ (hw _ (List.mem_of_getElem? (i := 2) rfl))) (mvT hZ (hw _ (List.mem_of_getElem? (i := 3) rfl))) (mvT hZ (hw _ (List.mem_of_getElem? (i := 4) rfl))) (by decide) (backOf (W := 0) (rmA9 l Z a0 hw [] kd h0 n0 Z0 hd) hZ (hw _ (List.mem_of_getElem? (i := 4) rfl)) (hw _ (List.mem_of_getElem? (i := 3) rfl)) (by decide) (by decide)) (g := (mkF m 56 #[.val (.int p1), .val (.int p2), .val (.int p3), .val (.int p4), .val (.int p5), .val (.int kt), .val (.int kf), .val (.int kd), .val (.int tw), .val (.ref tr), .val (.ref fi), .unset, .unset, .unset, .unset] [(.int kd)])) rfl (by rw [hml]; rfl) (argsL := [(.int kd)]) (rest := []) (lenOf pd_1 rfl) rfl (by show 2 * 0 + _ ≤ _; exact Nat.le_of_eq rfl) (hb hby at_56) (fun _ _ => ⟨rfl, e110, (by decide : 0 + 0 ≤ _), (by decide : 0 + 0 ≤ _)⟩)
    dsimp only [Pt.U, Pt.locs, Pt.cells, Pt.slots] at X130 l130 y130 z130 st130 hQ130
    subst l130 y130 z130
    obtain ⟨rfl, N130q, e130⟩ := hQ130
    have N130 := Fr.app N110 N130q
    obtain ⟨T131, h131, X131, e131, Ext_b, E_b, D_b, -, st131⟩ := newO X130 hx hZ hown (hw _ (List.mem_of_getElem? (i := 12) rfl)) (hw _ (List.mem_of_getElem? (i := 13) rfl)) (hw _ (List.mem_of_getElem? (i := 14) rfl)) e130 (g := (mkF m 61 #[.val (.int p1), .val (.int p2), .val (.int p3), .val (.int p4), .val (.int p5), .val (.int kt), .val (.int kf), .val (.int kd), .val (.int tw), .val (.ref tr), .val (.ref fi), .val .null, .unset, .unset, .unset] [])) rfl (hb hby at_61) (by decide) (by decide)
    obtain ⟨b, eq_b⟩ : ∃ z, z = h0.size := ⟨_, rfl⟩
    rw [← eq_b] at E_b D_b st131
    have g_b : n0 ≤ b := Nat.le_trans Z0 (Nat.le_of_eq eq_b.symm)
    have Z132 : n0 ≤ h131.size := Nat.le_trans Z0 (Ext_b.1)
    obtain ⟨nm, T133, h133, k1_133, X133, e133, Ext133, hS133, hk133, hZ133, hown133, st133⟩ := Jvm.RoadKit.ldcS (s := s) (vm0 := s.vm) X131 hx hZ hown (hw _ (List.mem_of_getElem? (i := 15) rfl)) (own_wS hw) e131 ((State.WarmedH.refl s).since 0) (Nat.zero_le _) (g := (mkF m 65 #[.val (.int p1), .val (.int p2), .val (.int p3), .val (.int p4), .val (.int p5), .val (.int kt), .val (.int kf), .val (.int kd), .val (.int tw), .val (.ref tr), .val (.ref fi), .val .null, .unset, .unset, .unset] [(.ref b), (.ref b)])) rfl (hb hby at_65) (n := 16) (by first | decide | decide +kernel | simp) (by decide) (by decide) (by decide)
    have E_b_134 := E_b.ext Ext133
    have Z135 : n0 ≤ h133.size := Nat.le_trans Z132 (Ext133.1)
    have F0_b : Fld Z h133 b "com/example/muster/muster/RuleBot$Rule" "name" "Ljava/lang/String;" .null := (D_b (Or.inr (hw _ (List.mem_of_getElem? (i := 35) rfl))) (ty := (.object "java/lang/String")) (by decide)).ext Ext133
    have F1_b : Fld Z h133 b "com/example/muster/muster/RuleBot$Rule" "massed" "Lcom/example/muster/muster/UnitType;" .null := (D_b (Or.inr (hw _ (List.mem_of_getElem? (i := 37) rfl))) (ty := (.object "com/example/muster/muster/UnitType")) (by decide)).ext Ext133
    have F2_b : Fld Z h133 b "com/example/muster/muster/RuleBot$Rule" "quota" "I" (.int (0 : Int32)) := (D_b (Or.inr (hw _ (List.mem_of_getElem? (i := 39) rfl))) (ty := .int) (by decide)).ext Ext133
    have F3_b : Fld Z h133 b "com/example/muster/muster/RuleBot$Rule" "trains" "Lcom/example/muster/muster/StrategicAction;" .null := (D_b (Or.inr (hw _ (List.mem_of_getElem? (i := 41) rfl))) (ty := (.object "com/example/muster/muster/StrategicAction")) (by decide)).ext Ext133
    have F4_b : Fld Z h133 b "com/example/muster/muster/RuleBot$Rule" "finish" "Lcom/example/muster/muster/StrategicAction;" .null := (D_b (Or.inr (hw _ (List.mem_of_getElem? (i := 43) rfl))) (ty := (.object "com/example/muster/muster/StrategicAction")) (by decide)).ext Ext133
    have F5_b : Fld Z h133 b "com/example/muster/muster/RuleBot$Rule" "trainsWhileFinishing" "Z" (.int (0 : Int32)) := (D_b (Or.inr (hw _ (List.mem_of_getElem? (i := 45) rfl))) (ty := .boolean) (by decide)).ext Ext133
    obtain ⟨_, _, ⟨T136, L136, k136, n136⟩, -, X136, ⟨Lc136, hQ136, l136, y136, z136⟩, st136⟩ := X133.specialBack hx (y := (⟨"com/example/muster/muster/RuleBot$Rule", "<init>", "(Ljava/lang/String;Lcom/example/muster/muster/UnitType;ILcom/example/muster/muster/StrategicAction;Lcom/example/muster/muster/StrategicAction;Z)V"⟩ : MethodName)) rfl hown133 (mvT hZ133 (hw _ (List.mem_of_getElem? (i := 23) rfl))) (mvT hZ133 (hw _ (List.mem_of_getElem? (i := 24) rfl))) (mvT hZ133 (hw _ (List.mem_of_getElem? (i := 25) rfl))) (by decide) (backOf (W := 1) (rmC l Z a0 hw [] b nm p5 tr fi tw h133 n0 Z135 E_b_134 F0_b F1_b F2_b F3_b F4_b F5_b g_b) hZ133 (hw _ (List.mem_of_getElem? (i := 25) rfl)) (hw _ (List.mem_of_getElem? (i := 14) rfl)) (by decide) (by decide)) (g := (mkF m 76 #[.val (.int p1), .val (.int p2), .val (.int p3), .val (.int p4), .val (.int p5), .val (.int kt), .val (.int kf), .val (.int kd), .val (.int tw), .val (.ref tr), .val (.ref fi), .val .null, .unset, .unset, .unset] [(.int tw), (.ref fi), (.ref tr), (.int p5), .null, (.ref nm), (.ref b), (.ref b)])) rfl (by rw [hml]; rfl) (Steps.refl _) (a := b) (argsL := [(.ref nm), .null, (.int p5), (.ref tr), (.ref fi), (.int tw)]) (rest := [(.ref b)]) (lenOf pd_2 rfl) rfl (by show 2 * 0 + _ ≤ _; exact Nat.le_of_eq rfl) (hb hby at_76) (fun _ _ => ⟨rfl, e133, (by decide : 3 + 0 ≤ _), (by decide : 26 + 0 ≤ _)⟩)
    dsimp only [Pt.U, Pt.locs, Pt.cells, Pt.slots] at X136 l136 y136 z136 st136 hQ136
    subst l136 y136 z136
    obtain ⟨rfl, N136q, K136, E136, F3136, F4136, F5136⟩ := hQ136
    have N136 := Fr.app N130 N136q
    rw [own_narz hj_tw] at F5136
    have Z137 : n0 ≤ T136.heap.size := Nat.le_trans Z135 (K136.1)
    have hk138 := Nat.le_trans hk133 (K136.1)
    have pre139 : ∀ t_, Steps p.tables e below (T136.setTop (mkF m 85 #[.val (.int p1), .val (.int p2), .val (.int p3), .val (.int p4), .val (.int p5), .val (.int kt), .val (.int kf), .val (.int kd), .val (.int tw), .val (.ref tr), .val (.ref fi), .val .null, .val (.ref b), .unset, .unset] [.null, (.ref b)])) t_ → Steps p.tables e below (s₁.setTop (entryFrame m #[(.int p1), (.int p2), (.int p3), (.int p4), (.int p5)] maxLocals)) t_ := fun t_ k_ => pre112 _ (by
      show Steps p.tables e below (T110.setTop (mkF m 56 #[.val (.int p1), .val (.int p2), .val (.int p3), .val (.int p4), .val (.int p5), .val (.int kt), .val (.int kf), .val (.int kd), .val (.int tw), .val (.ref tr), .val (.ref fi), .unset, .unset, .unset, .unset] [(.int kd)])) _
      refine st130 _ ?_
      show Steps p.tables e below (T130.setTop (mkF m 59 #[.val (.int p1), .val (.int p2), .val (.int p3), .val (.int p4), .val (.int p5), .val (.int kt), .val (.int kf), .val (.int kd), .val (.int tw), .val (.ref tr), .val (.ref fi), .unset, .unset, .unset, .unset] [.null])) _
      refine XS.astore X130.here hx rfl (hb hby at_59) rfl rfl (l' := #[.val (.int p1), .val (.int p2), .val (.int p3), .val (.int p4), .val (.int p5), .val (.int kt), .val (.int kf), .val (.int kd), .val (.int tw), .val (.ref tr), .val (.ref fi), .val .null, .unset, .unset, .unset]) rfl ?_
      show Steps p.tables e below (T130.setTop (mkF m 61 #[.val (.int p1), .val (.int p2), .val (.int p3), .val (.int p4), .val (.int p5), .val (.int kt), .val (.int kf), .val (.int kd), .val (.int tw), .val (.ref tr), .val (.ref fi), .val .null, .unset, .unset, .unset] [])) _
      refine st131 _ ?_
      show Steps p.tables e below (T131.setTop (mkF m 64 #[.val (.int p1), .val (.int p2), .val (.int p3), .val (.int p4), .val (.int p5), .val (.int kt), .val (.int kf), .val (.int kd), .val (.int tw), .val (.ref tr), .val (.ref fi), .val .null, .unset, .unset, .unset] [(.ref b)])) _
      refine XS.dup X131.here hx rfl (hb hby at_64) rfl rfl ?_
      show Steps p.tables e below (T131.setTop (mkF m 65 #[.val (.int p1), .val (.int p2), .val (.int p3), .val (.int p4), .val (.int p5), .val (.int kt), .val (.int kf), .val (.int kd), .val (.int tw), .val (.ref tr), .val (.ref fi), .val .null, .unset, .unset, .unset] [(.ref b), (.ref b)])) _
      refine st133 _ ?_
      show Steps p.tables e below (T133.setTop (mkF m 67 #[.val (.int p1), .val (.int p2), .val (.int p3), .val (.int p4), .val (.int p5), .val (.int kt), .val (.int kf), .val (.int kd), .val (.int tw), .val (.ref tr), .val (.ref fi), .val .null, .unset, .unset, .unset] [(.ref nm), (.ref b), (.ref b)])) _
      refine XS.aconstNull X133.here hx rfl (hb hby at_67) ?_
      show Steps p.tables e below (T133.setTop (mkF m 68 #[.val (.int p1), .val (.int p2), .val (.int p3), .val (.int p4), .val (.int p5), .val (.int kt), .val (.int kf), .val (.int kd), .val (.int tw), .val (.ref tr), .val (.ref fi), .val .null, .unset, .unset, .unset] [.null, (.ref nm), (.ref b), (.ref b)])) _
      refine XS.iload X133.here hx rfl (hb hby at_68) rfl ?_
      show Steps p.tables e below (T133.setTop (mkF m 70 #[.val (.int p1), .val (.int p2), .val (.int p3), .val (.int p4), .val (.int p5), .val (.int kt), .val (.int kf), .val (.int kd), .val (.int tw), .val (.ref tr), .val (.ref fi), .val .null, .unset, .unset, .unset] [(.int p5), .null, (.ref nm), (.ref b), (.ref b)])) _
      refine XS.aload X133.here hx rfl (hb hby at_70) rfl rfl ?_
      show Steps p.tables e below (T133.setTop (mkF m 72 #[.val (.int p1), .val (.int p2), .val (.int p3), .val (.int p4), .val (.int p5), .val (.int kt), .val (.int kf), .val (.int kd), .val (.int tw), .val (.ref tr), .val (.ref fi), .val .null, .unset, .unset, .unset] [(.ref tr), (.int p5), .null, (.ref nm), (.ref b), (.ref b)])) _
      refine XS.aload X133.here hx rfl (hb hby at_72) rfl rfl ?_
      show Steps p.tables e below (T133.setTop (mkF m 74 #[.val (.int p1), .val (.int p2), .val (.int p3), .val (.int p4), .val (.int p5), .val (.int kt), .val (.int kf), .val (.int kd), .val (.int tw), .val (.ref tr), .val (.ref fi), .val .null, .unset, .unset, .unset] [(.ref fi), (.ref tr), (.int p5), .null, (.ref nm), (.ref b), (.ref b)])) _
      refine XS.iload X133.here hx rfl (hb hby at_74) rfl ?_
      show Steps p.tables e below (T133.setTop (mkF m 76 #[.val (.int p1), .val (.int p2), .val (.int p3), .val (.int p4), .val (.int p5), .val (.int kt), .val (.int kf), .val (.int kd), .val (.int tw), .val (.ref tr), .val (.ref fi), .val .null, .unset, .unset, .unset] [(.int tw), (.ref fi), (.ref tr), (.int p5), .null, (.ref nm), (.ref b), (.ref b)])) _
      refine st136.trans ?_
      show Steps p.tables e below (T136.setTop (mkF m 79 #[.val (.int p1), .val (.int p2), .val (.int p3), .val (.int p4), .val (.int p5), .val (.int kt), .val (.int kf), .val (.int kd), .val (.int tw), .val (.ref tr), .val (.ref fi), .val .null, .unset, .unset, .unset] [(.ref b)])) _
      refine XS.astore X136.here hx rfl (hb hby at_79) rfl rfl (l' := #[.val (.int p1), .val (.int p2), .val (.int p3), .val (.int p4), .val (.int p5), .val (.int kt), .val (.int kf), .val (.int kd), .val (.int tw), .val (.ref tr), .val (.ref fi), .val .null, .val (.ref b), .unset, .unset]) rfl ?_
      show Steps p.tables e below (T136.setTop (mkF m 81 #[.val (.int p1), .val (.int p2), .val (.int p3), .val (.int p4), .val (.int p5), .val (.int kt), .val (.int kf), .val (.int kd), .val (.int tw), .val (.ref tr), .val (.ref fi), .val .null, .val (.ref b), .unset, .unset] [])) _
      refine XS.aload X136.here hx rfl (hb hby at_81) rfl rfl ?_
      show Steps p.tables e below (T136.setTop (mkF m 83 #[.val (.int p1), .val (.int p2), .val (.int p3), .val (.int p4), .val (.int p5), .val (.int kt), .val (.int kf), .val (.int kd), .val (.int tw), .val (.ref tr), .val (.ref fi), .val .null, .val (.ref b), .unset, .unset] [(.ref b)])) _
      refine XS.aload X136.here hx rfl (hb hby at_83) rfl rfl ?_
      exact k_)
    by_cases hz : tw = 0
    · skip
      obtain ⟨cq140, kq140, q140a, q140b, q140c⟩ := isOf hZ133 rfl E136
      obtain ⟨_, _, ⟨T140, L140, k140, n140⟩, -, X140, ⟨Lc140, hQ140, l140, y140, z140⟩, st140⟩ := X136.virtualBack hx (y := (⟨"com/example/muster/muster/RuleBot$Rule", "besides", "(Lcom/example/muster/muster/StrategicAction;)Lcom/example/muster/muster/StrategicAction;"⟩ : MethodName)) (z := (⟨"com/example/muster/muster/RuleBot$Rule", "besides", "(Lcom/example/muster/muster/StrategicAction;)Lcom/example/muster/muster/StrategicAction;"⟩ : MethodName)) hown133 (mvT hZ133 (hw _ (List.mem_of_getElem? (i := 46) rfl))) (mvT hZ133 (hw _ (List.mem_of_getElem? (i := 47) rfl))) (notFace_of_selects (args := #[]) (mvT hZ133 (hw _ (List.mem_of_getElem? (i := 49) rfl)))) (mvT hZ133 (hw _ (List.mem_of_getElem? (i := 49) rfl))) (mvT hZ133 (hw _ (List.mem_of_getElem? (i := 48) rfl))) (by decide) (backOf (W := 0) (rmB3 l Z a0 hw [] b tr fi tw T136.heap n0 Z137 F3136 F4136 F5136 hz) hZ133 (hw _ (List.mem_of_getElem? (i := 50) rfl)) (hw _ (List.mem_of_getElem? (i := 14) rfl)) (by decide) (by decide)) q140a q140c (g := (mkF m 85 #[.val (.int p1), .val (.int p2), .val (.int p3), .val (.int p4), .val (.int p5), .val (.int kt), .val (.int kf), .val (.int kd), .val (.int tw), .val (.ref tr), .val (.ref fi), .val .null, .val (.ref b), .unset, .unset] [.null, (.ref b)])) rfl (by rw [hml]; rfl) (Steps.refl _) (argsL := [.null]) (rest := []) (lenOf pd_3 rfl) rfl (by show 2 * 0 + _ ≤ _; exact Nat.le_of_eq rfl) (hb hby at_85) (fun _ _ => ⟨rfl, rfl, (by decide : 3 + 0 ≤ _), (by decide : 26 + 0 ≤ _)⟩)
      dsimp only [Pt.U, Pt.locs, Pt.cells, Pt.slots] at X140 l140 y140 z140 st140 hQ140
      subst l140 y140 z140
      obtain ⟨rfl, N140q, e140⟩ := hQ140
      have N140 := Fr.app N136 N140q
      have pre141 : ∀ t_, Steps p.tables e below (T140.setTop (mkF m 130 #[.val (.int p1), .val (.int p2), .val (.int p3), .val (.int p4), .val (.int p5), .val (.int kt), .val (.int kf), .val (.int kd), .val (.int tw), .val (.ref tr), .val (.ref fi), .val .null, .val (.ref b), .val .null, .val .null] [(.int (1 : Int32))])) t_ → Steps p.tables e below (s₁.setTop (entryFrame m #[(.int p1), (.int p2), (.int p3), (.int p4), (.int p5)] maxLocals)) t_ := fun t_ k_ => pre139 _ (by
        show Steps p.tables e below (T136.setTop (mkF m 85 #[.val (.int p1), .val (.int p2), .val (.int p3), .val (.int p4), .val (.int p5), .val (.int kt), .val (.int kf), .val (.int kd), .val (.int tw), .val (.ref tr), .val (.ref fi), .val .null, .val (.ref b), .unset, .unset] [.null, (.ref b)])) _
        refine st140.trans ?_
        show Steps p.tables e below (T140.setTop (mkF m 88 #[.val (.int p1), .val (.int p2), .val (.int p3), .val (.int p4), .val (.int p5), .val (.int kt), .val (.int kf), .val (.int kd), .val (.int tw), .val (.ref tr), .val (.ref fi), .val .null, .val (.ref b), .unset, .unset] [.null])) _
        refine XS.astore X140.here hx rfl (hb hby at_88) rfl rfl (l' := #[.val (.int p1), .val (.int p2), .val (.int p3), .val (.int p4), .val (.int p5), .val (.int kt), .val (.int kf), .val (.int kd), .val (.int tw), .val (.ref tr), .val (.ref fi), .val .null, .val (.ref b), .val .null, .unset]) rfl ?_
        show Steps p.tables e below (T140.setTop (mkF m 90 #[.val (.int p1), .val (.int p2), .val (.int p3), .val (.int p4), .val (.int p5), .val (.int kt), .val (.int kf), .val (.int kd), .val (.int tw), .val (.ref tr), .val (.ref fi), .val .null, .val (.ref b), .val .null, .unset] [])) _
        refine XS.iload X140.here hx rfl (hb hby at_90) rfl ?_
        show Steps p.tables e below (T140.setTop (mkF m 92 #[.val (.int p1), .val (.int p2), .val (.int p3), .val (.int p4), .val (.int p5), .val (.int kt), .val (.int kf), .val (.int kd), .val (.int tw), .val (.ref tr), .val (.ref fi), .val .null, .val (.ref b), .val .null, .unset] [(.int tw)])) _
        refine XS.ifNo X140.here hx rfl (hb hby at_92) rfl ((if0 _ _).trans (teq hz).2) ?_
        show Steps p.tables e below (T140.setTop (mkF m 95 #[.val (.int p1), .val (.int p2), .val (.int p3), .val (.int p4), .val (.int p5), .val (.int kt), .val (.int kf), .val (.int kd), .val (.int tw), .val (.ref tr), .val (.ref fi), .val .null, .val (.ref b), .val .null, .unset] [])) _
        refine XS.aconstNull X140.here hx rfl (hb hby at_95) ?_
        show Steps p.tables e below (T140.setTop (mkF m 96 #[.val (.int p1), .val (.int p2), .val (.int p3), .val (.int p4), .val (.int p5), .val (.int kt), .val (.int kf), .val (.int kd), .val (.int tw), .val (.ref tr), .val (.ref fi), .val .null, .val (.ref b), .val .null, .unset] [.null])) _
        refine XS.astore X140.here hx rfl (hb hby at_96) rfl rfl (l' := #[.val (.int p1), .val (.int p2), .val (.int p3), .val (.int p4), .val (.int p5), .val (.int kt), .val (.int kf), .val (.int kd), .val (.int tw), .val (.ref tr), .val (.ref fi), .val .null, .val (.ref b), .val .null, .val .null]) rfl ?_
        show Steps p.tables e below (T140.setTop (mkF m 98 #[.val (.int p1), .val (.int p2), .val (.int p3), .val (.int p4), .val (.int p5), .val (.int kt), .val (.int kf), .val (.int kd), .val (.int tw), .val (.ref tr), .val (.ref fi), .val .null, .val (.ref b), .val .null, .val .null] [])) _
        refine XS.goto X140.here hx rfl (pc0 := 98) (pc' := 118) rfl (hb hby at_98) (by decide) (by decide) ?_
        show Steps p.tables e below (T140.setTop (mkF m 118 #[.val (.int p1), .val (.int p2), .val (.int p3), .val (.int p4), .val (.int p5), .val (.int kt), .val (.int kf), .val (.int kd), .val (.int tw), .val (.ref tr), .val (.ref fi), .val .null, .val (.ref b), .val .null, .val .null] [])) _
        refine XS.aload X140.here hx rfl (hb hby at_118) rfl rfl ?_
        show Steps p.tables e below (T140.setTop (mkF m 120 #[.val (.int p1), .val (.int p2), .val (.int p3), .val (.int p4), .val (.int p5), .val (.int kt), .val (.int kf), .val (.int kd), .val (.int tw), .val (.ref tr), .val (.ref fi), .val .null, .val (.ref b), .val .null, .val .null] [.null])) _
        refine XS.aload X140.here hx rfl (hb hby at_120) rfl rfl ?_
        show Steps p.tables e below (T140.setTop (mkF m 122 #[.val (.int p1), .val (.int p2), .val (.int p3), .val (.int p4), .val (.int p5), .val (.int kt), .val (.int kf), .val (.int kd), .val (.int tw), .val (.ref tr), .val (.ref fi), .val .null, .val (.ref b), .val .null, .val .null] [.null, .null])) _
        refine Jvm.RoadKit.acmp (g := (mkF m 122 #[.val (.int p1), .val (.int p2), .val (.int p3), .val (.int p4), .val (.int p5), .val (.int kt), .val (.int kf), .val (.int kd), .val (.int tw), .val (.ref tr), .val (.ref fi), .val .null, .val (.ref b), .val .null, .val .null] [.null, .null])) X140 hx rfl rfl rfl (pc0 := 122) (pc' := 125) (same := true) rfl (hb hby at_122) rfl (decide_eq_true rfl) (by decide) (by decide) ?_
        show Steps p.tables e below (T140.setTop (mkF m 125 #[.val (.int p1), .val (.int p2), .val (.int p3), .val (.int p4), .val (.int p5), .val (.int kt), .val (.int kf), .val (.int kd), .val (.int tw), .val (.ref tr), .val (.ref fi), .val .null, .val (.ref b), .val .null, .val .null] [])) _
        refine XS.iconst X140.here hx rfl (hb hby at_125) ?_
        show Steps p.tables e below (T140.setTop (mkF m 126 #[.val (.int p1), .val (.int p2), .val (.int p3), .val (.int p4), .val (.int p5), .val (.int kt), .val (.int kf), .val (.int kd), .val (.int tw), .val (.ref tr), .val (.ref fi), .val .null, .val (.ref b), .val .null, .val .null] [(.int (1 : Int32))])) _
        refine XS.goto X140.here hx rfl (pc0 := 126) (pc' := 130) rfl (hb hby at_126) (by decide) (by decide) ?_
        exact k_)
      obtain ⟨fs, hr, hrun, hended, hWr, hW1, hW2, hsame⟩ := Jvm.Stand.leaveW (s := s) X140 hS133 (by rw [e140]; exact hk138) (v := some (.int (1 : Int32))) (fun h => by rw [Bd.returns] at h; cases h)
      refine ⟨_, _, pre141 _ ?_, hrun, hended, _, _, rfl, ?_, hWr, hW1, hW2, hsame.mono (by decide) (by decide)⟩
      · show Steps p.tables e below (T140.setTop (mkF m 130 #[.val (.int p1), .val (.int p2), .val (.int p3), .val (.int p4), .val (.int p5), .val (.int kt), .val (.int kf), .val (.int kd), .val (.int tw), .val (.ref tr), .val (.ref fi), .val .null, .val (.ref b), .val .null, .val .null] [(.int (1 : Int32))])) _
        exact retN X140 hx (t := .boolean) Bd.returns (by simp) (hb hby at_130) hr
      · show Qrm0 Z p1 p2 p3 p4 p5 en0 en1 en2 en3 en4 en5 en6 en7 en8 h0 n0 _ T140.heap _
        rw [e140]
        exact ⟨rfl, N140⟩
    · skip
      obtain ⟨cq142, kq142, q142a, q142b, q142c⟩ := isOf hZ133 rfl E136
      obtain ⟨_, _, ⟨T142, L142, k142, n142⟩, -, X142, ⟨Lc142, hQ142, l142, y142, z142⟩, st142⟩ := X136.virtualBack hx (y := (⟨"com/example/muster/muster/RuleBot$Rule", "besides", "(Lcom/example/muster/muster/StrategicAction;)Lcom/example/muster/muster/StrategicAction;"⟩ : MethodName)) (z := (⟨"com/example/muster/muster/RuleBot$Rule", "besides", "(Lcom/example/muster/muster/StrategicAction;)Lcom/example/muster/muster/StrategicAction;"⟩ : MethodName)) hown133 (mvT hZ133 (hw _ (List.mem_of_getElem? (i := 46) rfl))) (mvT hZ133 (hw _ (List.mem_of_getElem? (i := 47) rfl))) (notFace_of_selects (args := #[]) (mvT hZ133 (hw _ (List.mem_of_getElem? (i := 49) rfl)))) (mvT hZ133 (hw _ (List.mem_of_getElem? (i := 49) rfl))) (mvT hZ133 (hw _ (List.mem_of_getElem? (i := 48) rfl))) (by decide) (backOf (W := 0) (rmB4 l Z a0 hw [] b tr fi tw T136.heap n0 Z137 F3136 F4136 F5136 hz) hZ133 (hw _ (List.mem_of_getElem? (i := 50) rfl)) (hw _ (List.mem_of_getElem? (i := 14) rfl)) (by decide) (by decide)) q142a q142c (g := (mkF m 85 #[.val (.int p1), .val (.int p2), .val (.int p3), .val (.int p4), .val (.int p5), .val (.int kt), .val (.int kf), .val (.int kd), .val (.int tw), .val (.ref tr), .val (.ref fi), .val .null, .val (.ref b), .unset, .unset] [.null, (.ref b)])) rfl (by rw [hml]; rfl) (Steps.refl _) (argsL := [.null]) (rest := []) (lenOf pd_3 rfl) rfl (by show 2 * 0 + _ ≤ _; exact Nat.le_of_eq rfl) (hb hby at_85) (fun _ _ => ⟨rfl, rfl, (by decide : 3 + 0 ≤ _), (by decide : 26 + 0 ≤ _)⟩)
      dsimp only [Pt.U, Pt.locs, Pt.cells, Pt.slots] at X142 l142 y142 z142 st142 hQ142
      subst l142 y142 z142
      obtain ⟨rfl, N142q, e142⟩ := hQ142
      have N142 := Fr.app N136 N142q
      have pre143 : ∀ t_, Steps p.tables e below (T142.setTop (mkF m 130 #[.val (.int p1), .val (.int p2), .val (.int p3), .val (.int p4), .val (.int p5), .val (.int kt), .val (.int kf), .val (.int kd), .val (.int tw), .val (.ref tr), .val (.ref fi), .val .null, .val (.ref b), .val .null, .val .null] [(.int (1 : Int32))])) t_ → Steps p.tables e below (s₁.setTop (entryFrame m #[(.int p1), (.int p2), (.int p3), (.int p4), (.int p5)] maxLocals)) t_ := fun t_ k_ => pre139 _ (by
        show Steps p.tables e below (T136.setTop (mkF m 85 #[.val (.int p1), .val (.int p2), .val (.int p3), .val (.int p4), .val (.int p5), .val (.int kt), .val (.int kf), .val (.int kd), .val (.int tw), .val (.ref tr), .val (.ref fi), .val .null, .val (.ref b), .unset, .unset] [.null, (.ref b)])) _
        refine st142.trans ?_
        show Steps p.tables e below (T142.setTop (mkF m 88 #[.val (.int p1), .val (.int p2), .val (.int p3), .val (.int p4), .val (.int p5), .val (.int kt), .val (.int kf), .val (.int kd), .val (.int tw), .val (.ref tr), .val (.ref fi), .val .null, .val (.ref b), .unset, .unset] [.null])) _
        refine XS.astore X142.here hx rfl (hb hby at_88) rfl rfl (l' := #[.val (.int p1), .val (.int p2), .val (.int p3), .val (.int p4), .val (.int p5), .val (.int kt), .val (.int kf), .val (.int kd), .val (.int tw), .val (.ref tr), .val (.ref fi), .val .null, .val (.ref b), .val .null, .unset]) rfl ?_
        show Steps p.tables e below (T142.setTop (mkF m 90 #[.val (.int p1), .val (.int p2), .val (.int p3), .val (.int p4), .val (.int p5), .val (.int kt), .val (.int kf), .val (.int kd), .val (.int tw), .val (.ref tr), .val (.ref fi), .val .null, .val (.ref b), .val .null, .unset] [])) _
        refine XS.iload X142.here hx rfl (hb hby at_90) rfl ?_
        show Steps p.tables e below (T142.setTop (mkF m 92 #[.val (.int p1), .val (.int p2), .val (.int p3), .val (.int p4), .val (.int p5), .val (.int kt), .val (.int kf), .val (.int kd), .val (.int tw), .val (.ref tr), .val (.ref fi), .val .null, .val (.ref b), .val .null, .unset] [(.int tw)])) _
        refine XS.ifYes X142.here hx rfl (pc0 := 92) (pc' := 101) rfl (hb hby at_92) rfl ((if0 _ _).trans (feq hz).2) (by decide) (by decide) ?_
        show Steps p.tables e below (T142.setTop (mkF m 101 #[.val (.int p1), .val (.int p2), .val (.int p3), .val (.int p4), .val (.int p5), .val (.int kt), .val (.int kf), .val (.int kd), .val (.int tw), .val (.ref tr), .val (.ref fi), .val .null, .val (.ref b), .val .null, .unset] [])) _
        refine XS.iload X142.here hx rfl (hb hby at_101) rfl ?_
        show Steps p.tables e below (T142.setTop (mkF m 103 #[.val (.int p1), .val (.int p2), .val (.int p3), .val (.int p4), .val (.int p5), .val (.int kt), .val (.int kf), .val (.int kd), .val (.int tw), .val (.ref tr), .val (.ref fi), .val .null, .val (.ref b), .val .null, .unset] [(.int kd)])) _
        refine XS.iload X142.here hx rfl (hb hby at_103) rfl ?_
        show Steps p.tables e below (T142.setTop (mkF m 105 #[.val (.int p1), .val (.int p2), .val (.int p3), .val (.int p4), .val (.int p5), .val (.int kt), .val (.int kf), .val (.int kd), .val (.int tw), .val (.ref tr), .val (.ref fi), .val .null, .val (.ref b), .val .null, .unset] [(.int kf), (.int kd)])) _
        refine XS.icmpYes X142.here hx rfl (pc0 := 105) (pc' := 115) rfl (hb hby at_105) rfl (feq (by rw [hd]; exact fun q => own_not9 hf q.symm)).2 (by decide) (by decide) ?_
        show Steps p.tables e below (T142.setTop (mkF m 115 #[.val (.int p1), .val (.int p2), .val (.int p3), .val (.int p4), .val (.int p5), .val (.int kt), .val (.int kf), .val (.int kd), .val (.int tw), .val (.ref tr), .val (.ref fi), .val .null, .val (.ref b), .val .null, .unset] [])) _
        refine XS.aconstNull X142.here hx rfl (hb hby at_115) ?_
        show Steps p.tables e below (T142.setTop (mkF m 116 #[.val (.int p1), .val (.int p2), .val (.int p3), .val (.int p4), .val (.int p5), .val (.int kt), .val (.int kf), .val (.int kd), .val (.int tw), .val (.ref tr), .val (.ref fi), .val .null, .val (.ref b), .val .null, .unset] [.null])) _
        refine XS.astore X142.here hx rfl (hb hby at_116) rfl rfl (l' := #[.val (.int p1), .val (.int p2), .val (.int p3), .val (.int p4), .val (.int p5), .val (.int kt), .val (.int kf), .val (.int kd), .val (.int tw), .val (.ref tr), .val (.ref fi), .val .null, .val (.ref b), .val .null, .val .null]) rfl ?_
        show Steps p.tables e below (T142.setTop (mkF m 118 #[.val (.int p1), .val (.int p2), .val (.int p3), .val (.int p4), .val (.int p5), .val (.int kt), .val (.int kf), .val (.int kd), .val (.int tw), .val (.ref tr), .val (.ref fi), .val .null, .val (.ref b), .val .null, .val .null] [])) _
        refine XS.aload X142.here hx rfl (hb hby at_118) rfl rfl ?_
        show Steps p.tables e below (T142.setTop (mkF m 120 #[.val (.int p1), .val (.int p2), .val (.int p3), .val (.int p4), .val (.int p5), .val (.int kt), .val (.int kf), .val (.int kd), .val (.int tw), .val (.ref tr), .val (.ref fi), .val .null, .val (.ref b), .val .null, .val .null] [.null])) _
        refine XS.aload X142.here hx rfl (hb hby at_120) rfl rfl ?_
        show Steps p.tables e below (T142.setTop (mkF m 122 #[.val (.int p1), .val (.int p2), .val (.int p3), .val (.int p4), .val (.int p5), .val (.int kt), .val (.int kf), .val (.int kd), .val (.int tw), .val (.ref tr), .val (.ref fi), .val .null, .val (.ref b), .val .null, .val .null] [.null, .null])) _
        refine Jvm.RoadKit.acmp (g := (mkF m 122 #[.val (.int p1), .val (.int p2), .val (.int p3), .val (.int p4), .val (.int p5), .val (.int kt), .val (.int kf), .val (.int kd), .val (.int tw), .val (.ref tr), .val (.ref fi), .val .null, .val (.ref b), .val .null, .val .null] [.null, .null])) X142 hx rfl rfl rfl (pc0 := 122) (pc' := 125) (same := true) rfl (hb hby at_122) rfl (decide_eq_true rfl) (by decide) (by decide) ?_
        show Steps p.tables e below (T142.setTop (mkF m 125 #[.val (.int p1), .val (.int p2), .val (.int p3), .val (.int p4), .val (.int p5), .val (.int kt), .val (.int kf), .val (.int kd), .val (.int tw), .val (.ref tr), .val (.ref fi), .val .null, .val (.ref b), .val .null, .val .null] [])) _
        refine XS.iconst X142.here hx rfl (hb hby at_125) ?_
        show Steps p.tables e below (T142.setTop (mkF m 126 #[.val (.int p1), .val (.int p2), .val (.int p3), .val (.int p4), .val (.int p5), .val (.int kt), .val (.int kf), .val (.int kd), .val (.int tw), .val (.ref tr), .val (.ref fi), .val .null, .val (.ref b), .val .null, .val .null] [(.int (1 : Int32))])) _
        refine XS.goto X142.here hx rfl (pc0 := 126) (pc' := 130) rfl (hb hby at_126) (by decide) (by decide) ?_
        exact k_)
      obtain ⟨fs, hr, hrun, hended, hWr, hW1, hW2, hsame⟩ := Jvm.Stand.leaveW (s := s) X142 hS133 (by rw [e142]; exact hk138) (v := some (.int (1 : Int32))) (fun h => by rw [Bd.returns] at h; cases h)
      refine ⟨_, _, pre143 _ ?_, hrun, hended, _, _, rfl, ?_, hWr, hW1, hW2, hsame.mono (by decide) (by decide)⟩
      · show Steps p.tables e below (T142.setTop (mkF m 130 #[.val (.int p1), .val (.int p2), .val (.int p3), .val (.int p4), .val (.int p5), .val (.int kt), .val (.int kf), .val (.int kd), .val (.int tw), .val (.ref tr), .val (.ref fi), .val .null, .val (.ref b), .val .null, .val .null] [(.int (1 : Int32))])) _
        exact retN X142 hx (t := .boolean) Bd.returns (by simp) (hb hby at_130) hr
      · show Qrm0 Z p1 p2 p3 p4 p5 en0 en1 en2 en3 en4 en5 en6 en7 en8 h0 n0 _ T142.heap _
        rw [e142]
        exact ⟨rfl, N142⟩
set_option maxRecDepth 65536 in
set_option maxHeartbeats 40000000 in
theorem comes_1 {Post : Tables → Env → Array Value → State → Outcome → State → Prop} (hpost : ∀ tb e args s v u, (limb_1_1.after args s (.returned v) u = true ∧ limb_1_2.after args s (.returned v) u = true ∧ True) → ReturnedEndW s (.returned v) u (Jvm.fieldLocs frame_1_writes args s ++ Jvm.arrayLocs frame_1_arrays args s ++ Jvm.staticLocs frame_1_statics s) 16 1152 → Post tb e args s (.returned v) u) :
    ArmFor flags0 classFile x code maxLocals ret World_1 tables_1 room_1 Calls_1 rest_1 Pre_1 Post := by
  intro l hfl _ _ p e ha hc hk s m args below hf hA hF happ hP
  obtain ⟨hcalls, hrest, hpre⟩ := hP
  obtain ⟨-, -, -, hnamed, -, -, -, hat⟩ := (Spec.applies_iff hf).mp happ
  obtain ⟨hg, hn⟩ := and_e (Cond.before_iff.mp (show (Jvm.Cond.and given_1 narrow_1).before args s = true from hpre))
  obtain ⟨gg1, gg2⟩ := and_e hg
  obtain ⟨gg3, gg4⟩ := and_e gg2
  obtain ⟨gg5, gg6⟩ := and_e gg4
  obtain ⟨gg7, gg8⟩ := and_e gg6
  obtain ⟨gg9, gg10⟩ := and_e gg8
  obtain ⟨w0, w1, w2, w3, w4, rfl⟩ : ∃ w0 w1 w2 w3 w4 : Value, args = #[w0, w1, w2, w3, w4] := by
    have hs : args.size = 5 := by simpa [Cond.value, given_1] using gg1
    obtain ⟨L⟩ := args
    match L, hs with
    | [w0, w1, w2, w3, w4], _ => exact ⟨w0, w1, w2, w3, w4, rfl⟩
  have hw := fun d (hd : d ∈ tables_1) => atoms_spec (ws := Jvm.Cond.code x code maxLocals ret :: tables_1) hat d (List.mem_cons_of_mem _ hd)
  have hfit : Fit s := fun {y c} hc i hi => by
    obtain ⟨ha, rfl⟩ := Array.getElem?_eq_some_iff.mp hc
    have q := List.all_eq_true.mp ((Array.all_eq_true_iff_forall_mem.mp hF) _ (Array.getElem_mem ha)) i (List.mem_range.mpr hi)
    simpa [Array.getElem?_eq_getElem hi] using q
  obtain ⟨i0, ei0⟩ := is_v gg3
  obtain rfl : w0 = (.int i0) := Option.some.inj ei0
  obtain ⟨i1, ei1⟩ := is_v gg5
  obtain rfl : w1 = (.int i1) := Option.some.inj ei1
  obtain ⟨i2, ei2⟩ := is_v gg7
  obtain rfl : w2 = (.int i2) := Option.some.inj ei2
  obtain ⟨i3, ei3⟩ := is_v gg9
  obtain rfl : w3 = (.int i3) := Option.some.inj ei3
  obtain ⟨i4, ei4⟩ := is_v gg10
  obtain rfl : w4 = (.int i4) := Option.some.inj ei4
  obtain ⟨nn1, nn2⟩ := and_e hn
  obtain ⟨nn3, nn4⟩ := and_e nn2
  obtain ⟨nn5, nn6⟩ := and_e nn4
  obtain ⟨nn7, nn8⟩ := and_e nn6
  obtain ⟨nn9, nn10⟩ := and_e nn8
  obtain ⟨nn11, nn12⟩ := and_e nn10
  obtain ⟨nn13, nn14⟩ := and_e nn12
  obtain ⟨nn15, nn16⟩ := and_e nn14
  obtain ⟨nn17, nn18⟩ := and_e nn16
  obtain ⟨nn19, nn20⟩ := and_e nn18
  obtain ⟨nn21, nn22⟩ := and_e nn20
  obtain ⟨nn23, nn24⟩ := and_e nn22
  obtain ⟨nn25, nn26⟩ := and_e nn24
  obtain ⟨nn27, nn28⟩ := and_e nn26
  obtain ⟨nn29, nn30⟩ := and_e nn28
  obtain ⟨nn31, nn32⟩ := and_e nn30
  obtain ⟨nn33, nn34⟩ := and_e nn32
  obtain ⟨a0, ev0, E_0, S_0⟩ := own_static nn1 (hw _ (List.mem_of_getElem? (i := 6) rfl)) (hw _ (List.mem_of_getElem? (i := 7) rfl))
  obtain ⟨a3, ev3, E_3, S_3⟩ := own_static nn3 (hw _ (List.mem_of_getElem? (i := 6) rfl)) (hw _ (List.mem_of_getElem? (i := 9) rfl))
  obtain ⟨a2, ev2, E_2, S_2⟩ := own_static nn5 (hw _ (List.mem_of_getElem? (i := 6) rfl)) (hw _ (List.mem_of_getElem? (i := 11) rfl))
  obtain ⟨a4, ev4, E_4, S_4⟩ := own_static nn11 (hw _ (List.mem_of_getElem? (i := 6) rfl)) (hw _ (List.mem_of_getElem? (i := 52) rfl))
  obtain ⟨a8, ev8, E_8, S_8⟩ := own_static nn17 (hw _ (List.mem_of_getElem? (i := 6) rfl)) (hw _ (List.mem_of_getElem? (i := 54) rfl))
  obtain ⟨a1, ev1, E_1, S_1⟩ := own_static nn19 (hw _ (List.mem_of_getElem? (i := 6) rfl)) (hw _ (List.mem_of_getElem? (i := 56) rfl))
  obtain ⟨a5, ev5, E_5, S_5⟩ := own_static nn23 (hw _ (List.mem_of_getElem? (i := 6) rfl)) (hw _ (List.mem_of_getElem? (i := 58) rfl))
  obtain ⟨a6, ev6, E_6, S_6⟩ := own_static nn25 (hw _ (List.mem_of_getElem? (i := 6) rfl)) (hw _ (List.mem_of_getElem? (i := 60) rfl))
  obtain ⟨a7, ev7, E_7, S_7⟩ := own_static nn27 (hw _ (List.mem_of_getElem? (i := 6) rfl)) (hw _ (List.mem_of_getElem? (i := 62) rfl))
  have F_2 := own_ord ev2 nn7
  have F_3 := own_ord ev3 nn9
  have F_0 := own_ord ev0 nn13
  have F_4 := own_ord ev4 nn15
  have F_1 := own_ord ev1 nn21
  have F_8 := own_ord ev8 nn29
  have F_5 := own_ord ev5 nn31
  have F_7 := own_ord ev7 nn33
  have F_6 := own_ord ev6 nn34
  obtain ⟨n, o, h1, h2, h3, _, L, rfl, ⟨rfl, N⟩, hq⟩ := rm0 l s _ hw tables_1 i0 i1 i2 i3 i4 a0 a1 a2 a3 a4 a5 a6 a7 a8 s.heap s.heap.size (Nat.le_refl _) S_0 S_1 S_2 S_3 S_4 S_5 S_6 S_7 S_8 F_0 F_1 F_2 F_3 F_4 F_5 F_6 F_7 F_8 p e ha hc hk s m _ below hf ((Spec.applies_iff_loose hf).mp happ).1 ⟨rfl, State.Warmed39.refl s, rfl⟩ trivial
  refine ⟨n, _, h1, h2, h3, hpost _ _ _ _ _ _ ⟨Cond.after_iff.mpr rfl, Cond.after_iff.mpr (eq_i res_at (Term.int_eval (1)) rfl), trivial⟩ ⟨hq.1, hq.2.1, hq.2.2.1, (hq.2.2.2.sift fun y hy => Or.inr (N y hy)).mono (by decide) (by decide)⟩⟩
theorem main_1_1 : Claimed_1_1 := comes_1 fun _ _ _ _ _ _ h hF => ⟨h.1, hF⟩
theorem main_1_2 : Claimed_1_2 := comes_1 fun _ _ _ _ _ _ h hF => ⟨h.2.1, hF⟩
end Jvm.Pilot.@@N@@
namespace Jvm.Pilot.@@N@@
open Jvm Jvm.ClassFile Sem Op Lib Jvm.Free Jvm.Stand Jvm.Pilot.@@N@@.Jvm.D
/-! MADE BY PROGRAM (witnessworld.py) out of the Statement's table words and the real class files: 17 classes; the members and pool entries that the words name. The judged class is class 1, her method 2. -/
namespace start1
open Jvm.ClassFile
def u (s : String) : CpInfo := .utf8 (stringToUtf16 s)
/-- a pool by its gaps: so many unusable entries, then the entry; so many at the end -/
def gap : Nat → List CpInfo → List CpInfo
  | 0, r => r
  | n + 1, r => .unusable :: gap n r
def poolList (es : List (Nat × CpInfo)) (last : Nat) : List CpInfo := es.foldr (fun e r => gap e.1 (e.2 :: r)) (gap last [])
def pool (es : List (Nat × CpInfo)) (last : Nat) : Array CpInfo := ⟨poolList es last⟩
def fileOf (pool : Array CpInfo) (this : Nat) (attrs : Array Attribute := #[]) (ms : Array MethodInfo := #[]) (fl : Nat := 33) (sup : Nat := 0) (ifs : Array Nat := #[]) (fds : Array FieldInfo := #[]) : ClassFile where
  minorVersion := 0
  majorVersion := 65
  constantPool := pool
  accessFlags := fl
  thisClass := this
  superClass := sup
  interfaces := ifs
  fields := fds
  methods := ms
  attributes := attrs
def plain (name : String) (sup : Option ClassId) : Class where
  name := name
  kind := .ordinary
  loader := none
  accessFlags := 33
  super := sup
  interfaces := #[]
  cf := none
  fields := #[]
  methods := #[]
  instanceTypes := #[]
  staticTypes := #[]
  resolved := #[]
  callSites := []
  init := .initialized
  statics := none
  mirror := none

def pool0 : Array CpInfo := pool [(5, u "<init>"), (0, u "()V"), (1, .class_ 10), (1, u "java/lang/Object")] 113

def k0c0 : Code := { maxStack := 0, maxLocals := 1, code := object_method_1_code, exceptionTable := #[], attributes := #[] }
def k0m0 : Method := { name := "<init>", desc := "()V", sig := { parameters := [], returnType := none }, accessFlags := 1, code := some k0c0 }
/-- java/lang/Object -/
def k0 : Class := { plain "java/lang/Object" none with
  accessFlags := 33
  interfaces := #[]
  cf := some (fileOf pool0 8 #[] #[{ accessFlags := 1, nameIndex := 5, descriptorIndex := 6, attributes := #[] }] 33 0 #[] #[])
  fields := #[]
  methods := #[k0m0]
  instanceTypes := #[]
  staticTypes := #[]
  resolved := Array.replicate 124 none
  statics := none }

def pool1 : Array CpInfo := pool [(2, .class_ 4), (1, u "java/lang/Object"), (0, u "<init>"), (0, u "()V"), (0, .fieldref 8 9), (0, .class_ 10), (0, .nameAndType 11 12), (0, u "com/example/muster/muster/StrategicAction"), (0, u "IDLE"), (0, u "Lcom/example/muster/muster/StrategicAction;"), (0, .fieldref 8 14), (0, .nameAndType 15 12), (0, u "BUILD_WORKER"), (0, .fieldref 8 17), (0, .nameAndType 18 12), (0, u "BUILD_BARRACKS"), (0, .fieldref 8 20), (0, .nameAndType 21 12), (0, u "BUILD_MELEE"), (0, .fieldref 8 23), (0, .nameAndType 24 12), (0, u "BUILD_RANGED"), (0, .fieldref 8 26), (0, .nameAndType 27 12), (0, u "HIT_AND_RUN"), (0, .fieldref 8 29), (0, .nameAndType 30 12), (0, u "ATTACK"), (0, .fieldref 8 32), (0, .nameAndType 33 12), (0, u "ATTACK_IN_RANGE"), (0, .fieldref 8 35), (0, .nameAndType 36 12), (0, u "ALL_DEFEND"), (0, .integer 2147483647), (0, .methodref 39 40), (0, .class_ 41), (0, .nameAndType 42 43), (0, u "com/example/muster/muster/RuleBesidesPinLaw"), (0, u "action"), (0, u "(I)Lcom/example/muster/muster/StrategicAction;"), (0, .class_ 45), (0, u "com/example/muster/muster/RuleBot$Rule"), (0, .string 47), (0, u "rule"), (0, .methodref 44 49), (0, .nameAndType 5 50), (0, u "(Ljava/lang/String;Lcom/example/muster/muster/UnitType;ILcom/example/muster/muster/StrategicAction;Lcom/example/muster/muster/StrategicAction;Z)V"), (0, .methodref 44 52), (0, .nameAndType 53 54), (0, u "besides"), (0, u "(Lcom/example/muster/muster/StrategicAction;)Lcom/example/muster/muster/StrategicAction;"), (3, u "law"), (0, u "(IIIII)Z")] 6

def k1m0 : Method := { name := "<init>", desc := "()V", sig := { parameters := [], returnType := none }, accessFlags := 2, code := none }
def k1c1 : Code := { maxStack := 2, maxLocals := 1, code := method_2_code, exceptionTable := #[], attributes := #[] }
def k1m1 : Method := { name := "action", desc := "(I)Lcom/example/muster/muster/StrategicAction;", sig := { parameters := [.int], returnType := some (.object "com/example/muster/muster/StrategicAction") }, accessFlags := 10, code := some k1c1 }
def k1c2 : Code := { maxStack := 8, maxLocals := 15, code := code, exceptionTable := #[], attributes := #[] }
def k1m2 : Method := { name := "law", desc := "(IIIII)Z", sig := { parameters := [.int, .int, .int, .int, .int], returnType := some .boolean }, accessFlags := 9, code := some k1c2 }
/-- com/example/muster/muster/RuleBesidesPinLaw -/
def k1 : Class := { plain "com/example/muster/muster/RuleBesidesPinLaw" (some 0) with
  accessFlags := 49
  interfaces := #[]
  cf := some (fileOf pool1 39 #[] #[{ accessFlags := 2, nameIndex := 5, descriptorIndex := 6, attributes := #[] }, { accessFlags := 10, nameIndex := 42, descriptorIndex := 43, attributes := #[] }, { accessFlags := 9, nameIndex := 58, descriptorIndex := 59, attributes := #[] }] 49 2 #[] #[])
  fields := #[]
  methods := #[k1m0, k1m1, k1m2]
  instanceTypes := #[]
  staticTypes := #[]
  resolved := Array.replicate 66 none
  statics := none }

def pool2 : Array CpInfo := pool [(1, .class_ 2), (0, u "java/lang/constant/Constable"), (0, .class_ 4), (0, u "java/lang/Object")] 6

/-- java/lang/constant/Constable -/
def k2 : Class := { plain "java/lang/constant/Constable" (some 0) with
  accessFlags := 1537
  interfaces := #[]
  cf := some (fileOf pool2 1 #[] #[] 1537 3 #[] #[])
  fields := #[]
  methods := #[]
  instanceTypes := #[]
  staticTypes := #[]
  resolved := Array.replicate 11 none
  statics := none }

def pool3 : Array CpInfo := pool [(1, .class_ 2), (0, u "java/lang/Comparable"), (0, .class_ 4), (0, u "java/lang/Object")] 7

/-- java/lang/Comparable -/
def k3 : Class := { plain "java/lang/Comparable" (some 0) with
  accessFlags := 1537
  interfaces := #[]
  cf := some (fileOf pool3 1 #[] #[] 1537 3 #[] #[])
  fields := #[]
  methods := #[]
  instanceTypes := #[]
  staticTypes := #[]
  resolved := Array.replicate 12 none
  statics := none }

def pool4 : Array CpInfo := pool [(1, .class_ 2), (0, u "java/io/Serializable"), (0, .class_ 4), (0, u "java/lang/Object")] 2

/-- java/io/Serializable -/
def k4 : Class := { plain "java/io/Serializable" (some 0) with
  accessFlags := 1537
  interfaces := #[]
  cf := some (fileOf pool4 1 #[] #[] 1537 3 #[] #[])
  fields := #[]
  methods := #[]
  instanceTypes := #[]
  staticTypes := #[]
  resolved := Array.replicate 7 none
  statics := none }

def pool5 : Array CpInfo := pool [(2, .class_ 4), (1, u "java/lang/Enum"), (0, u "name"), (0, u "Ljava/lang/String;"), (2, u "ordinal"), (0, u "I"), (1, .class_ 14), (1, u "java/lang/Object"), (4, u "hash"), (86, .class_ 108), (1, u "java/lang/Enum$EnumDesc"), (2, .class_ 112), (0, u "java/lang/constant/Constable"), (0, .class_ 114), (0, u "java/lang/Comparable"), (0, .class_ 116), (0, u "java/io/Serializable")] 87

/-- java/lang/Enum -/
def k5 : Class := { plain "java/lang/Enum" (some 0) with
  accessFlags := 1057
  interfaces := #[2, 3, 4]
  cf := some (fileOf pool5 2 #[.nestMembers #[106]] #[] 1057 12 #[111, 113, 115] #[{ accessFlags := 18, nameIndex := 5, descriptorIndex := 6, attributes := #[] }, { accessFlags := 18, nameIndex := 9, descriptorIndex := 10, attributes := #[] }, { accessFlags := 2, nameIndex := 19, descriptorIndex := 10, attributes := #[] }])
  fields := #[{ name := "name", type := (.object "java/lang/String"), accessFlags := 18, slot := 0, constantValue := 0 }, { name := "ordinal", type := .int, accessFlags := 18, slot := 1, constantValue := 0 }, { name := "hash", type := .int, accessFlags := 2, slot := 2, constantValue := 0 }]
  methods := #[]
  instanceTypes := #[(.object "java/lang/String"), .int, .int]
  staticTypes := #[]
  resolved := Array.replicate 204 none
  statics := none }

def pool6 : Array CpInfo := pool [(1, .class_ 2), (0, u "com/example/muster/muster/StrategicAction"), (2, u "IDLE"), (0, u "Lcom/example/muster/muster/StrategicAction;"), (2, u "BUILD_WORKER"), (2, u "BUILD_BARRACKS"), (2, u "BUILD_MELEE"), (2, u "BUILD_RANGED"), (2, u "HIT_AND_RUN"), (2, u "ATTACK"), (2, u "ATTACK_IN_RANGE"), (2, u "ALL_DEFEND"), (2, u "$VALUES"), (0, u "[Lcom/example/muster/muster/StrategicAction;"), (6, .class_ 43), (1, u "java/lang/Enum"), (31, u "ALL"), (0, u "Ljava/util/List;")] 11

/-- com/example/muster/muster/StrategicAction -/
def k6 : Class := { plain "com/example/muster/muster/StrategicAction" (some 5) with
  accessFlags := 16432
  interfaces := #[]
  cf := some (fileOf pool6 1 #[] #[] 16432 41 #[] #[{ accessFlags := 16409, nameIndex := 5, descriptorIndex := 6, attributes := #[] }, { accessFlags := 16409, nameIndex := 9, descriptorIndex := 6, attributes := #[] }, { accessFlags := 16409, nameIndex := 12, descriptorIndex := 6, attributes := #[] }, { accessFlags := 16409, nameIndex := 15, descriptorIndex := 6, attributes := #[] }, { accessFlags := 16409, nameIndex := 18, descriptorIndex := 6, attributes := #[] }, { accessFlags := 16409, nameIndex := 21, descriptorIndex := 6, attributes := #[] }, { accessFlags := 16409, nameIndex := 24, descriptorIndex := 6, attributes := #[] }, { accessFlags := 16409, nameIndex := 27, descriptorIndex := 6, attributes := #[] }, { accessFlags := 16409, nameIndex := 30, descriptorIndex := 6, attributes := #[] }, { accessFlags := 24, nameIndex := 75, descriptorIndex := 76, attributes := #[] }, { accessFlags := 4122, nameIndex := 33, descriptorIndex := 34, attributes := #[] }])
  fields := #[{ name := "IDLE", type := (.object "com/example/muster/muster/StrategicAction"), accessFlags := 16409, slot := 0, constantValue := 0 }, { name := "BUILD_WORKER", type := (.object "com/example/muster/muster/StrategicAction"), accessFlags := 16409, slot := 1, constantValue := 0 }, { name := "BUILD_BARRACKS", type := (.object "com/example/muster/muster/StrategicAction"), accessFlags := 16409, slot := 2, constantValue := 0 }, { name := "BUILD_MELEE", type := (.object "com/example/muster/muster/StrategicAction"), accessFlags := 16409, slot := 3, constantValue := 0 }, { name := "BUILD_RANGED", type := (.object "com/example/muster/muster/StrategicAction"), accessFlags := 16409, slot := 4, constantValue := 0 }, { name := "HIT_AND_RUN", type := (.object "com/example/muster/muster/StrategicAction"), accessFlags := 16409, slot := 5, constantValue := 0 }, { name := "ATTACK", type := (.object "com/example/muster/muster/StrategicAction"), accessFlags := 16409, slot := 6, constantValue := 0 }, { name := "ATTACK_IN_RANGE", type := (.object "com/example/muster/muster/StrategicAction"), accessFlags := 16409, slot := 7, constantValue := 0 }, { name := "ALL_DEFEND", type := (.object "com/example/muster/muster/StrategicAction"), accessFlags := 16409, slot := 8, constantValue := 0 }, { name := "ALL", type := (.object "java/util/List"), accessFlags := 24, slot := 9, constantValue := 0 }, { name := "$VALUES", type := (.array (.object "com/example/muster/muster/StrategicAction")), accessFlags := 4122, slot := 10, constantValue := 0 }]
  methods := #[]
  instanceTypes := #[(.object "java/lang/String"), .int, .int]
  staticTypes := #[(.object "com/example/muster/muster/StrategicAction"), (.object "com/example/muster/muster/StrategicAction"), (.object "com/example/muster/muster/StrategicAction"), (.object "com/example/muster/muster/StrategicAction"), (.object "com/example/muster/muster/StrategicAction"), (.object "com/example/muster/muster/StrategicAction"), (.object "com/example/muster/muster/StrategicAction"), (.object "com/example/muster/muster/StrategicAction"), (.object "com/example/muster/muster/StrategicAction"), (.object "java/util/List"), (.array (.object "com/example/muster/muster/StrategicAction"))]
  resolved := Array.replicate 88 none
  statics := some 0 }

def pool7 : Array CpInfo := pool [(1, .methodref 2 3), (0, .class_ 4), (0, .nameAndType 5 6), (0, u "java/lang/Object"), (0, u "<init>"), (0, u "()V"), (0, .class_ 8), (0, u "java/lang/Record")] 13

def k7c0 : Code := { maxStack := 1, maxLocals := 1, code := jdk_30_method_1_code, exceptionTable := #[], attributes := #[] }
def k7m0 : Method := { name := "<init>", desc := "()V", sig := { parameters := [], returnType := none }, accessFlags := 4, code := some k7c0 }
/-- java/lang/Record -/
def k7 : Class := { plain "java/lang/Record" (some 0) with
  accessFlags := 1057
  interfaces := #[]
  cf := some (fileOf pool7 7 #[] #[{ accessFlags := 4, nameIndex := 5, descriptorIndex := 6, attributes := #[] }] 1057 2 #[] #[])
  fields := #[]
  methods := #[k7m0]
  instanceTypes := #[]
  staticTypes := #[]
  resolved := Array.replicate 22 none
  statics := none }

def pool8 : Array CpInfo := pool [(1, .methodref 2 3), (0, .class_ 4), (0, .nameAndType 5 6), (0, u "java/lang/Record"), (0, u "<init>"), (0, u "()V"), (0, .fieldref 8 9), (0, .class_ 10), (0, .nameAndType 11 12), (0, u "com/example/muster/muster/RuleBot$Rule"), (0, u "name"), (0, u "Ljava/lang/String;"), (0, .fieldref 8 14), (0, .nameAndType 15 16), (0, u "massed"), (0, u "Lcom/example/muster/muster/UnitType;"), (0, .fieldref 8 18), (0, .nameAndType 19 20), (0, u "quota"), (0, u "I"), (0, .fieldref 8 22), (0, .nameAndType 23 24), (0, u "trains"), (0, u "Lcom/example/muster/muster/StrategicAction;"), (0, .fieldref 8 26), (0, .nameAndType 27 24), (0, u "finish"), (0, .fieldref 8 29), (0, .nameAndType 30 31), (0, u "trainsWhileFinishing"), (0, u "Z"), (67, u "besides"), (0, u "(Lcom/example/muster/muster/StrategicAction;)Lcom/example/muster/muster/StrategicAction;"), (12, u "WORKERS"), (2, u "(Ljava/lang/String;Lcom/example/muster/muster/UnitType;ILcom/example/muster/muster/StrategicAction;Lcom/example/muster/muster/StrategicAction;Z)V"), (12, .class_ 130), (0, u "com/example/muster/muster/RuleBot")] 24

def k8c0 : Code := { maxStack := 2, maxLocals := 7, code := prog_46_method_1_code, exceptionTable := #[], attributes := #[] }
def k8m0 : Method := { name := "<init>", desc := "(Ljava/lang/String;Lcom/example/muster/muster/UnitType;ILcom/example/muster/muster/StrategicAction;Lcom/example/muster/muster/StrategicAction;Z)V", sig := { parameters := [(.object "java/lang/String"), (.object "com/example/muster/muster/UnitType"), .int, (.object "com/example/muster/muster/StrategicAction"), (.object "com/example/muster/muster/StrategicAction"), .boolean], returnType := none }, accessFlags := 0, code := some k8c0 }
def k8c1 : Code := { maxStack := 2, maxLocals := 2, code := prog_46_method_3_code, exceptionTable := #[], attributes := #[] }
def k8m1 : Method := { name := "besides", desc := "(Lcom/example/muster/muster/StrategicAction;)Lcom/example/muster/muster/StrategicAction;", sig := { parameters := [(.object "com/example/muster/muster/StrategicAction")], returnType := some (.object "com/example/muster/muster/StrategicAction") }, accessFlags := 0, code := some k8c1 }
/-- com/example/muster/muster/RuleBot$Rule -/
def k8 : Class := { plain "com/example/muster/muster/RuleBot$Rule" (some 7) with
  accessFlags := 48
  interfaces := #[]
  cf := some (fileOf pool8 8 #[.nestHost 129] #[{ accessFlags := 0, nameIndex := 5, descriptorIndex := 116, attributes := #[] }, { accessFlags := 0, nameIndex := 99, descriptorIndex := 100, attributes := #[] }] 48 2 #[] #[{ accessFlags := 18, nameIndex := 11, descriptorIndex := 12, attributes := #[] }, { accessFlags := 18, nameIndex := 15, descriptorIndex := 16, attributes := #[] }, { accessFlags := 18, nameIndex := 19, descriptorIndex := 20, attributes := #[] }, { accessFlags := 18, nameIndex := 23, descriptorIndex := 24, attributes := #[] }, { accessFlags := 18, nameIndex := 27, descriptorIndex := 24, attributes := #[] }, { accessFlags := 18, nameIndex := 30, descriptorIndex := 31, attributes := #[] }, { accessFlags := 26, nameIndex := 113, descriptorIndex := 20, attributes := #[] }])
  fields := #[{ name := "name", type := (.object "java/lang/String"), accessFlags := 18, slot := 0, constantValue := 0 }, { name := "massed", type := (.object "com/example/muster/muster/UnitType"), accessFlags := 18, slot := 1, constantValue := 0 }, { name := "quota", type := .int, accessFlags := 18, slot := 2, constantValue := 0 }, { name := "trains", type := (.object "com/example/muster/muster/StrategicAction"), accessFlags := 18, slot := 3, constantValue := 0 }, { name := "finish", type := (.object "com/example/muster/muster/StrategicAction"), accessFlags := 18, slot := 4, constantValue := 0 }, { name := "trainsWhileFinishing", type := .boolean, accessFlags := 18, slot := 5, constantValue := 0 }, { name := "WORKERS", type := .int, accessFlags := 26, slot := 0, constantValue := 0 }]
  methods := #[k8m0, k8m1]
  instanceTypes := #[(.object "java/lang/String"), (.object "com/example/muster/muster/UnitType"), .int, (.object "com/example/muster/muster/StrategicAction"), (.object "com/example/muster/muster/StrategicAction"), .boolean]
  staticTypes := #[.int]
  resolved := Array.replicate 155 none
  statics := none }

def pool9 : Array CpInfo := pool [(2, .class_ 4), (1, u "java/lang/CharSequence"), (42, .class_ 48), (0, u "java/lang/CharSequence$1CodePointIterator"), (10, .class_ 60), (0, u "java/lang/CharSequence$1CharIterator"), (5, .class_ 67), (0, u "java/lang/Object")] 63

/-- java/lang/CharSequence -/
def k9 : Class := { plain "java/lang/CharSequence" (some 0) with
  accessFlags := 1537
  interfaces := #[]
  cf := some (fileOf pool9 2 #[.nestMembers #[47, 59]] #[] 1537 66 #[] #[])
  fields := #[]
  methods := #[]
  instanceTypes := #[]
  staticTypes := #[]
  resolved := Array.replicate 131 none
  statics := none }

def pool10 : Array CpInfo := pool [(1, .class_ 2), (0, u "java/lang/constant/ConstantDesc"), (0, .class_ 4), (0, u "java/lang/Object")] 32

/-- java/lang/constant/ConstantDesc -/
def k10 : Class := { plain "java/lang/constant/ConstantDesc" (some 0) with
  accessFlags := 1537
  interfaces := #[]
  cf := some (fileOf pool10 1 #[] #[] 1537 3 #[] #[])
  fields := #[]
  methods := #[]
  instanceTypes := #[]
  staticTypes := #[]
  resolved := Array.replicate 37 none
  statics := none }

def pool11 : Array CpInfo := pool [(2, .class_ 4), (1, u "java/lang/Object"), (0, u "<init>"), (0, u "()V"), (3, .class_ 12), (1, u "java/lang/String"), (0, u "value"), (0, u "[B"), (2, u "coder"), (0, u "B"), (2, u "hash"), (0, u "I"), (2, u "hashIsZero"), (0, u "Z"), (13, u "COMPACT_STRINGS"), (534, .class_ 576), (0, u "java/lang/CharSequence"), (22, u "CASE_INSENSITIVE_ORDER"), (0, u "Ljava/util/Comparator;"), (500, u "serialPersistentFields"), (0, u "[Ljava/io/ObjectStreamField;"), (0, .class_ 1104), (0, u "java/lang/String$CaseInsensitiveComparator"), (1, .class_ 1107), (0, u "java/io/Serializable"), (0, .class_ 1109), (0, u "java/lang/Comparable"), (0, .class_ 1111), (0, u "java/lang/constant/Constable"), (0, .class_ 1113), (0, u "java/lang/constant/ConstantDesc"), (2, u "serialVersionUID"), (0, u "J"), (3, u "REPL"), (0, u "C"), (2, u "LATIN1"), (1, u "UTF16")] 323

def k11m0 : Method := { name := "<init>", desc := "()V", sig := { parameters := [], returnType := none }, accessFlags := 1, code := none }
/-- java/lang/String -/
def k11 : Class := { plain "java/lang/String" (some 0) with
  accessFlags := 49
  interfaces := #[4, 3, 9, 2, 10]
  cf := some (fileOf pool11 10 #[.nestMembers #[1103]] #[{ accessFlags := 1, nameIndex := 5, descriptorIndex := 6, attributes := #[] }] 49 2 #[1106, 1108, 575, 1110, 1112] #[{ accessFlags := 18, nameIndex := 13, descriptorIndex := 14, attributes := #[] }, { accessFlags := 18, nameIndex := 17, descriptorIndex := 18, attributes := #[] }, { accessFlags := 2, nameIndex := 21, descriptorIndex := 22, attributes := #[] }, { accessFlags := 2, nameIndex := 25, descriptorIndex := 26, attributes := #[] }, { accessFlags := 26, nameIndex := 1116, descriptorIndex := 1117, attributes := #[] }, { accessFlags := 24, nameIndex := 40, descriptorIndex := 26, attributes := #[] }, { accessFlags := 26, nameIndex := 1101, descriptorIndex := 1102, attributes := #[] }, { accessFlags := 26, nameIndex := 1121, descriptorIndex := 1122, attributes := #[] }, { accessFlags := 25, nameIndex := 599, descriptorIndex := 600, attributes := #[] }, { accessFlags := 24, nameIndex := 1125, descriptorIndex := 18, attributes := #[] }, { accessFlags := 24, nameIndex := 1127, descriptorIndex := 18, attributes := #[] }])
  fields := #[{ name := "value", type := (.array .byte), accessFlags := 18, slot := 0, constantValue := 0 }, { name := "coder", type := .byte, accessFlags := 18, slot := 1, constantValue := 0 }, { name := "hash", type := .int, accessFlags := 2, slot := 2, constantValue := 0 }, { name := "hashIsZero", type := .boolean, accessFlags := 2, slot := 3, constantValue := 0 }, { name := "serialVersionUID", type := .long, accessFlags := 26, slot := 0, constantValue := 0 }, { name := "COMPACT_STRINGS", type := .boolean, accessFlags := 24, slot := 1, constantValue := 0 }, { name := "serialPersistentFields", type := (.array (.object "java/io/ObjectStreamField")), accessFlags := 26, slot := 2, constantValue := 0 }, { name := "REPL", type := .char, accessFlags := 26, slot := 3, constantValue := 0 }, { name := "CASE_INSENSITIVE_ORDER", type := (.object "java/util/Comparator"), accessFlags := 25, slot := 4, constantValue := 0 }, { name := "LATIN1", type := .byte, accessFlags := 24, slot := 5, constantValue := 0 }, { name := "UTF16", type := .byte, accessFlags := 24, slot := 6, constantValue := 0 }]
  methods := #[k11m0]
  instanceTypes := #[(.array .byte), .byte, .int, .boolean]
  staticTypes := #[.long, .boolean, (.array (.object "java/io/ObjectStreamField")), .char, (.object "java/util/Comparator"), .byte, .byte]
  resolved := Array.replicate 1451 none
  statics := none }

def pool12 : Array CpInfo := pool [(1, u "java/lang/Cloneable"), (0, .class_ 1), (0, u "java/lang/Object"), (0, .class_ 3)] 3

/-- java/lang/Cloneable -/
def k12 : Class := { plain "java/lang/Cloneable" (some 0) with
  accessFlags := 1537
  interfaces := #[]
  cf := some (fileOf pool12 2 #[] #[] 1537 4 #[] #[])
  fields := #[]
  methods := #[]
  instanceTypes := #[]
  staticTypes := #[]
  resolved := Array.replicate 8 none
  statics := none }

/-- the primitive byte -/
def k13 : Class := { plain "byte" none with kind := .primitive 'B', accessFlags := 0x411 }
/-- [B -/
def k14 : Class := { plain "[B" (some 0) with kind := .array 13 .byte, interfaces := #[12, 4], accessFlags := 1041 }

/-- the primitive int -/
def k15 : Class := { plain "int" none with kind := .primitive 'I', accessFlags := 0x411 }
/-- [I -/
def k16 : Class := { plain "[I" (some 0) with kind := .array 15 .int, interfaces := #[12, 4], accessFlags := 1041 }

def heap : Heap := #[{ cls := 6, slots := #[.ref 1, .ref 2, .ref 3, .ref 4, .ref 5, .ref 6, .ref 7, .ref 8, .ref 9, .null, .null], vm := .statics 6 },
  { cls := 6, slots := #[.null, .int 0, .int 0], vm := .none },
  { cls := 6, slots := #[.null, .int 1, .int 0], vm := .none },
  { cls := 6, slots := #[.null, .int 2, .int 0], vm := .none },
  { cls := 6, slots := #[.null, .int 3, .int 0], vm := .none },
  { cls := 6, slots := #[.null, .int 4, .int 0], vm := .none },
  { cls := 6, slots := #[.null, .int 5, .int 0], vm := .none },
  { cls := 6, slots := #[.null, .int 6, .int 0], vm := .none },
  { cls := 6, slots := #[.null, .int 7, .int 0], vm := .none },
  { cls := 6, slots := #[.null, .int 8, .int 0], vm := .none }]
def classes : Array Class := #[k0, k1, k2, k3, k4, k5, k6, k7, k8, k9, k10, k11, k12, k13, k14, k15, k16]
def interned : List (Array UInt16 × Addr) := []
def slotsUsed : Nat := 38
def theMethod : MethodId := ⟨1, 2⟩
def args0 : Array Value := #[.int 5, .int 5, .int 5, .int 5, .int 5]
def aboutOver (below : List Frame) : State where
  vm := { classes := classes, interned := interned.toArray }
  heap := heap
  slotsUsed := slotsUsed
  threads := #[{ frames := .invoking theMethod args0 :: below }]
def below0 : List Frame := [.native { method := ⟨0, 0⟩, args := #[] }]
def about1 : State := aboutOver below0
def p0 : Program := .bare "" "" ""
def e0 : Env := launch0.env 0 0 0
theorem w_frames : about1.frames = Frame.invoking theMethod args0 :: below0 := rfl
set_option maxRecDepth 65536 in
theorem w_args : argsFit about1.vm theMethod args0 = true := by decide +kernel
set_option maxRecDepth 65536 in
theorem w_heap : heapFits about1 = true := by decide +kernel
set_option maxRecDepth 65536 in
theorem w_runnable : about1.curStatus? = some .runnable := by decide +kernel
set_option maxRecDepth 65536 in
theorem w_alone : about1.alone = true := by decide +kernel
set_option maxRecDepth 65536 in
theorem w_named : about1.methodNamed? x = some theMethod := by decide +kernel
set_option maxRecDepth 65536 in
theorem w_hears : about1.hears theMethod below0 = true := by decide +kernel
set_option maxRecDepth 65536 in
theorem w_ripe : about1.ripe theMethod args0 below0 = true := by decide +kernel
theorem w_running : about1.status = .running := rfl
set_option maxRecDepth 65536 in
theorem w_room : about1.hasRoom e0.platform room_1 = true :=
  launch0.hasRoom_least _ room_1 (by decide +kernel) (by decide +kernel) (by decide +kernel) (by decide +kernel) (by decide +kernel) (by decide +kernel)
theorem allAtoms_all (ts : List Jvm.Cond) (a : Array Jvm.Value) (st : Jvm.State) : (allAtoms ts).before a st = ts.all (fun c => c.before a st) := by
  induction ts with
  | nil => rfl
  | cons c t ih =>
    show (Jvm.Cond.and c (allAtoms t)).before a st = _
    rw [Jvm.Cond.before_and, ih, List.all_cons]
def words1 : List Jvm.Cond := Jvm.Cond.code x code maxLocals ret :: tables_1
/-- a 'code' word, met by the world's own term for the bytes: nothing is compared byte by byte -/
theorem code_word {y : MethodName} {bytes : ByteArray} {mx : Nat} {rt : Option FieldType} {a : Array Value} {s : State} {m : MethodId} {meth : Method} {c : Code} (h1 : s.methodNamed? y = some m) (h2 : s.vm.method? m = some meth) (h3 : meth.code = some c) (h4 : c.code = bytes)
    (h5 : (c.maxLocals == mx && c.exceptionTable.isEmpty && decide (c.maxStack ≤ mostOperands) && decide (meth.sig.returnType = rt) && !meth.locks && decide (parseMethodDescriptor y.desc = some meth.sig)) = true) : (Jvm.Cond.code y bytes mx rt).before a s = true := by
  simp only [Bool.and_eq_true, beq_iff_eq, Bool.not_eq_true', decide_eq_true_eq] at h5
  obtain ⟨⟨⟨⟨⟨g1, g2⟩, g3⟩, g4⟩, g5⟩, g6⟩ := h5
  simp [Cond.before, Cond.holds, Cond.value, h1, h2, h3, h4, g1, g2, g3, g4, g5, g6]
def isCode : Jvm.Cond → Bool
  | .code _ _ _ _ => true
  | _ => false
theorem all_split {L : List Jvm.Cond} {P : Jvm.Cond → Bool} (h1 : L.all (fun c => isCode c || P c) = true) (h2 : ∀ c ∈ L.filter isCode, P c = true) : L.all P = true := by
  refine List.all_eq_true.mpr fun c hc => ?_
  have h := List.all_eq_true.mp h1 c hc
  rcases Bool.eq_false_or_eq_true (isCode c) with hi | hi
  · exact h2 c (List.mem_filter.mpr ⟨hc, hi⟩)
  · simpa [hi] using h
set_option maxRecDepth 65536 in
theorem w_c0 : (Jvm.Cond.code x code maxLocals ret).before args0 about1 = true := code_word (m := ⟨1, 2⟩) (meth := k1m2) (c := k1c2) (by decide +kernel) rfl rfl rfl (by decide +kernel)
set_option maxRecDepth 65536 in
theorem w_c1 : (Jvm.Cond.code ({ cls := "com/example/muster/muster/RuleBesidesPinLaw", name := "action", desc := "(I)Lcom/example/muster/muster/StrategicAction;" } : Jvm.MethodName) method_2_code (1 : Nat) (Option.some (Jvm.ClassFile.FieldType.object "com/example/muster/muster/StrategicAction"))).before args0 about1 = true := code_word (m := ⟨1, 1⟩) (meth := k1m1) (c := k1c1) (by decide +kernel) rfl rfl rfl (by decide +kernel)
set_option maxRecDepth 65536 in
theorem w_c2 : (Jvm.Cond.code ({ cls := "com/example/muster/muster/RuleBot$Rule", name := "<init>", desc := "(Ljava/lang/String;Lcom/example/muster/muster/UnitType;ILcom/example/muster/muster/StrategicAction;Lcom/example/muster/muster/StrategicAction;Z)V" } : Jvm.MethodName) prog_46_method_1_code (7 : Nat) (Option.none : Option Jvm.ClassFile.FieldType)).before args0 about1 = true := code_word (m := ⟨8, 0⟩) (meth := k8m0) (c := k8c0) (by decide +kernel) rfl rfl rfl (by decide +kernel)
set_option maxRecDepth 65536 in
theorem w_c3 : (Jvm.Cond.code ({ cls := "java/lang/Record", name := "<init>", desc := "()V" } : Jvm.MethodName) jdk_30_method_1_code (1 : Nat) (Option.none : Option Jvm.ClassFile.FieldType)).before args0 about1 = true := code_word (m := ⟨7, 0⟩) (meth := k7m0) (c := k7c0) (by decide +kernel) rfl rfl rfl (by decide +kernel)
set_option maxRecDepth 65536 in
theorem w_c4 : (Jvm.Cond.code ({ cls := "java/lang/Object", name := "<init>", desc := "()V" } : Jvm.MethodName) object_method_1_code (1 : Nat) (Option.none : Option Jvm.ClassFile.FieldType)).before args0 about1 = true := code_word (m := ⟨0, 0⟩) (meth := k0m0) (c := k0c0) (by decide +kernel) rfl rfl rfl (by decide +kernel)
set_option maxRecDepth 65536 in
theorem w_c5 : (Jvm.Cond.code ({ cls := "com/example/muster/muster/RuleBot$Rule", name := "besides", desc := "(Lcom/example/muster/muster/StrategicAction;)Lcom/example/muster/muster/StrategicAction;" } : Jvm.MethodName) prog_46_method_3_code (2 : Nat) (Option.some (Jvm.ClassFile.FieldType.object "com/example/muster/muster/StrategicAction"))).before args0 about1 = true := code_word (m := ⟨8, 1⟩) (meth := k8m1) (c := k8c1) (by decide +kernel) rfl rfl rfl (by decide +kernel)
def codes1 : List Jvm.Cond := [Jvm.Cond.code x code maxLocals ret, Jvm.Cond.code ({ cls := "com/example/muster/muster/RuleBesidesPinLaw", name := "action", desc := "(I)Lcom/example/muster/muster/StrategicAction;" } : Jvm.MethodName) method_2_code (1 : Nat) (Option.some (Jvm.ClassFile.FieldType.object "com/example/muster/muster/StrategicAction")), Jvm.Cond.code ({ cls := "com/example/muster/muster/RuleBot$Rule", name := "<init>", desc := "(Ljava/lang/String;Lcom/example/muster/muster/UnitType;ILcom/example/muster/muster/StrategicAction;Lcom/example/muster/muster/StrategicAction;Z)V" } : Jvm.MethodName) prog_46_method_1_code (7 : Nat) (Option.none : Option Jvm.ClassFile.FieldType), Jvm.Cond.code ({ cls := "java/lang/Record", name := "<init>", desc := "()V" } : Jvm.MethodName) jdk_30_method_1_code (1 : Nat) (Option.none : Option Jvm.ClassFile.FieldType), Jvm.Cond.code ({ cls := "java/lang/Object", name := "<init>", desc := "()V" } : Jvm.MethodName) object_method_1_code (1 : Nat) (Option.none : Option Jvm.ClassFile.FieldType), Jvm.Cond.code ({ cls := "com/example/muster/muster/RuleBot$Rule", name := "besides", desc := "(Lcom/example/muster/muster/StrategicAction;)Lcom/example/muster/muster/StrategicAction;" } : Jvm.MethodName) prog_46_method_3_code (2 : Nat) (Option.some (Jvm.ClassFile.FieldType.object "com/example/muster/muster/StrategicAction"))]
set_option maxRecDepth 65536 in
theorem codes_eq : words1.filter isCode = codes1 := rfl
theorem w_codes : ∀ c ∈ words1.filter isCode, c.before args0 about1 = true := by
  rw [codes_eq]
  intro c hc
  simp only [codes1, List.mem_cons, List.not_mem_nil, or_false] at hc
  rcases hc with rfl | rfl | rfl | rfl | rfl | rfl
  · exact w_c0
  · exact w_c1
  · exact w_c2
  · exact w_c3
  · exact w_c4
  · exact w_c5
set_option maxRecDepth 65536 in
theorem w_t1 : (words1.take 24).all (fun c => isCode c || c.before args0 about1) = true := by decide +kernel
set_option maxRecDepth 65536 in
theorem w_t2 : ((words1.drop 24).take 24).all (fun c => isCode c || c.before args0 about1) = true := by decide +kernel
set_option maxRecDepth 65536 in
theorem w_t3 : ((words1.drop 24).drop 24).all (fun c => isCode c || c.before args0 about1) = true := by decide +kernel
theorem w_tables : (allAtoms (Jvm.Cond.code x code maxLocals ret :: tables_1)).before args0 about1 = true := by
  rw [allAtoms_all]
  show words1.all (fun c => c.before args0 about1) = true
  refine all_split ?_ w_codes
  rw [← List.take_append_drop 24 words1, List.all_append, w_t1, ← List.take_append_drop 24 (words1.drop 24), List.all_append, w_t2, w_t3]
  rfl
set_option maxRecDepth 65536 in
theorem w_case : (Jvm.Cond.and given_1 narrow_1).before args0 about1 = true := by decide +kernel
theorem w_applies : (headSpec (Jvm.Cond.code x code maxLocals ret :: tables_1) room_1).applies x e0.platform about1 = true :=
  (Spec.applies_iff w_frames).mpr ⟨w_running, w_runnable, w_alone, w_named, w_hears, w_ripe, w_room, w_tables⟩
theorem atStart : AtStart classFile x code maxLocals ret World_1 tables_1 room_1 Calls_1 rest_1 Pre_1 launch0 p0 e0 about1 theMethod args0 below0 :=
  ⟨lists_1, trivial, launch0.admits_env _ _ _, launch0.least_env, fairChoices_fair.cas, fairChoices_fair.clock, w_frames, w_args, w_heap, w_applies, trivial, trivial, w_case⟩
end start1
theorem witness_1 : WitnessClaimed_1 := ⟨start1.p0, start1.e0, start1.about1, start1.theMethod, start1.args0, start1.below0, start1.atStart⟩
end Jvm.Pilot.@@N@@
