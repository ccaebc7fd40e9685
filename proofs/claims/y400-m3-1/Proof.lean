import JvmDerived
import JvmDerived.Pilot.@@N@@Statement
import JvmDerived.Pilot.@@N@@Code
set_option linter.unusedVariables false
set_option linter.unusedSimpArgs false
namespace Jvm.RoadKit
open Sem ClassFile Op Lib Jvm.Stand Jvm.Free Jvm.LawKit
section New
variable {p : Program} {l : Launch} {e : Env} {R : Room} {s : State} {m : MethodId} {args : Array Value} {below : List Frame} {meth : Method} {c : Code} {T : State} {locs : List Loc} {cells slots : Nat}
theorem retI (X : Stand p l e R s m args below meth c T locs cells slots) (hx : p.tables.exec = Jvm.exec) {pc : Nat} {Ls : Array Slot} {z : Int32} {rest : List Value} (hret : meth.sig.returnType = some .int) (hd : decode c.code pc = .ok (.ireturn, 1)) {fs : List Frame}
    (hl : ∀ (f : JFrame) (acts : List Action), f.method = m → f.locked = none → f.entered = [] → (doReturn e (T.setTop f) acts (some (.int z))).1 = T.setFrames fs) : Steps p.tables e below (T.setTop (mkF m pc Ls (.int z :: rest))) (T.setFrames fs) := by
  have hm' : T.vm.method? m = some meth := X.method'
  have hn : narrow .int (.int z) = .int z := rfl
  show Steps p.tables e below (T.setTop { method := m, pc := pc, locals := Ls, stack := _ :: rest, locked := none }) _
  jvm_step X.here [X.here.top, hx, hd, hm', hret, hn]
  first | (intro acts; rw [hl _ acts rfl rfl rfl]) | rw [hl _ _ rfl rfl rfl]
  exact Steps.refl _
theorem retJ (X : Stand p l e R s m args below meth c T locs cells slots) (hx : p.tables.exec = Jvm.exec) {pc : Nat} {Ls : Array Slot} {z : Int64} {rest : List Value} (hret : meth.sig.returnType = some .long) (hd : decode c.code pc = .ok (.lreturn, 1)) {fs : List Frame}
    (hl : ∀ (f : JFrame) (acts : List Action), f.method = m → f.locked = none → f.entered = [] → (doReturn e (T.setTop f) acts (some (.long z))).1 = T.setFrames fs) : Steps p.tables e below (T.setTop (mkF m pc Ls (.long z :: rest))) (T.setFrames fs) := by
  have hm' : T.vm.method? m = some meth := X.method'
  have hn : narrow .long (.long z) = .long z := rfl
  show Steps p.tables e below (T.setTop { method := m, pc := pc, locals := Ls, stack := _ :: rest, locked := none }) _
  jvm_step X.here [X.here.top, hx, hd, hm', hret, hn]
  first | (intro acts; rw [hl _ acts rfl rfl rfl]) | rw [hl _ _ rfl rfl rfl]
  exact Steps.refl _
end New
end Jvm.RoadKit
namespace Jvm.Pilot.@@N@@
open Jvm Jvm.ClassFile Sem Op Lib Jvm.Free Jvm.Stand Jvm.LawKit Jvm.RoadKit Bundle Jvm.Pilot.@@N@@.Jvm.D
theorem own_j1 {G : Prop} {A : Prop → Prop} (h1 : A G) (h2 : A G → G) : G := h2 h1
theorem own_static {args : Array Value} {s : State} {C n d K : String} (h : (Jvm.Cond.exactly (Term.static C n d) K).value args s none s [] = some true) (hi : (Jvm.Cond.initialized C).before args s = true) (hl : (Jvm.Cond.laysStatic C n d).before args s = true) :
    ∃ a, (Term.static C n d).eval args s none [] s = some (.ref a) ∧ Exa s s.heap a K ∧ Sta s s.heap C n d (.ref a) := by
  obtain ⟨a, ev⟩ := exa_v h
  exact ⟨a, ev, Exa.start ev h, Sta.start ev (Or.inr ⟨hi, hl⟩)⟩
theorem own_ord {args : Array Value} {s : State} {C n d : String} {a : Addr} {k : Int32} (ev : (Term.static C n d).eval args s none [] s = some (.ref a)) (h : (Jvm.Cond.eq (Term.field (Term.static C n d) "java/lang/Enum" "ordinal" "I") (Term.int k)).value args s none s [] = some true) :
    Fld s s.heap a "java/lang/Enum" "ordinal" "I" (.int k) := by
  have q := Jvm.Free.NT.SwA.eq_int (Cond.before_iff.mpr h)
  rw [fld_at ev] at q
  exact Fld.start q
theorem own_vne {x y : Int32} (h : x ≠ y) : Value.int x ≠ Value.int y := fun q => h (Value.int.inj q)
def own_kind (k : Int32) (aM aA aH aR aT aB : Addr) : Addr := if k = 0 then aM else if k = 1 then aA else if k = 2 then aH else if k = 3 then aR else if k = 4 then aT else aB
def own_prod (a aT aB : Addr) : Int32 := if a = aT then 1 else if a = aB then 1 else 0
def own_tab (k : Int32) : Int32 := if k = 4 then 1 else if k = 5 then 1 else 0
theorem own_k6 (p : Int32) : let k := (p &&& (2147483647 : Int32)) % (6 : Int32); k = 0 ∨ k = 1 ∨ k = 2 ∨ k = 3 ∨ k = 4 ∨ k = 5 := by
  intro k
  have h0 := c_and p 2147483647 (by decide)
  have h1 := (c_irem (p &&& (2147483647 : Int32)) 6 6 (by decide)).1 h0.1
  have h2 : k.toInt = (p &&& (2147483647 : Int32)).toInt % 6 := h1
  have h3 : k.toInt = 0 ∨ k.toInt = 1 ∨ k.toInt = 2 ∨ k.toInt = 3 ∨ k.toInt = 4 ∨ k.toInt = 5 := by omega
  rcases h3 with h | h | h | h | h | h
  · exact Or.inl (Int32.toInt_inj.mp h)
  · exact Or.inr (Or.inl (Int32.toInt_inj.mp h))
  · exact Or.inr (Or.inr (Or.inl (Int32.toInt_inj.mp h)))
  · exact Or.inr (Or.inr (Or.inr (Or.inl (Int32.toInt_inj.mp h))))
  · exact Or.inr (Or.inr (Or.inr (Or.inr (Or.inl (Int32.toInt_inj.mp h)))))
  · exact Or.inr (Or.inr (Or.inr (Or.inr (Or.inr (Int32.toInt_inj.mp h)))))
theorem own_in6 {k : Int32} (h : k = 0 ∨ k = 1 ∨ k = 2 ∨ k = 3 ∨ k = 4 ∨ k = 5) : ¬ k < 0 ∧ k < 6 := by
  rcases h with h | h | h | h | h | h <;> subst h <;> decide
theorem own_tabat {k : Int32} (h : k = 0 ∨ k = 1 ∨ k = 2 ∨ k = 3 ∨ k = 4 ∨ k = 5) : [Value.int (0 : Int32), .int (0 : Int32), .int (0 : Int32), .int (0 : Int32), .int (1 : Int32), .int (1 : Int32)].getD k.toNatClampNeg (.int (0 : Int32)) = .int (own_tab k) := by
  rcases h with h | h | h | h | h | h <;> subst h <;> rfl
theorem own_same {k : Int32} {aM aA aH aR aT aB : Addr} (h : k = 0 ∨ k = 1 ∨ k = 2 ∨ k = 3 ∨ k = 4 ∨ k = 5) (n1 : aM ≠ aT) (n2 : aA ≠ aT) (n3 : aH ≠ aT) (n4 : aR ≠ aT) (m1 : aM ≠ aB) (m2 : aA ≠ aB) (m3 : aH ≠ aB) (m4 : aR ≠ aB) :
    own_prod (own_kind k aM aA aH aR aT aB) aT aB = own_tab k := by
  rcases h with h | h | h | h | h | h <;> subst h
  · show own_prod aM aT aB = 0; rw [own_prod, if_neg n1, if_neg m1]
  · show own_prod aA aT aB = 0; rw [own_prod, if_neg n2, if_neg m2]
  · show own_prod aH aT aB = 0; rw [own_prod, if_neg n3, if_neg m3]
  · show own_prod aR aT aB = 0; rw [own_prod, if_neg n4, if_neg m4]
  · show own_prod aT aT aB = 1; rw [own_prod, if_pos rfl]
  · show own_prod aB aT aB = 1
    by_cases q : aB = aT
    · rw [own_prod, if_pos q]
    · rw [own_prod, if_neg q, if_pos rfl]
theorem own_exk {Z : State} {h : Heap} {K : String} {k : Int32} {aM aA aH aR aT aB : Addr} (e1 : Exa Z h aM K) (e2 : Exa Z h aA K) (e3 : Exa Z h aH K) (e4 : Exa Z h aR K) (e5 : Exa Z h aT K) (e6 : Exa Z h aB K) : Exa Z h (own_kind k aM aA aH aR aT aB) K := by
  unfold own_kind
  split
  · exact e1
  split
  · exact e2
  split
  · exact e3
  split
  · exact e4
  split
  · exact e5
  · exact e6
theorem d1_0 : decode method_2_code 0 = .ok (.iload_n 0, 1) := by decide +kernel
theorem d1_1 : decode method_2_code 1 = .ok (.ifCond .ne 7, 3) := by decide +kernel
theorem d1_4 : decode method_2_code 4 = .ok (.getstatic 7, 3) := by decide +kernel
theorem d1_7 : decode method_2_code 7 = .ok (.areturn, 1) := by decide +kernel
theorem d1_8 : decode method_2_code 8 = .ok (.iload_n 0, 1) := by decide +kernel
theorem d1_9 : decode method_2_code 9 = .ok (.iconst 1, 1) := by decide +kernel
theorem d1_10 : decode method_2_code 10 = .ok (.if_icmp .ne 7, 3) := by decide +kernel
theorem d1_13 : decode method_2_code 13 = .ok (.getstatic 13, 3) := by decide +kernel
theorem d1_16 : decode method_2_code 16 = .ok (.areturn, 1) := by decide +kernel
theorem d1_17 : decode method_2_code 17 = .ok (.iload_n 0, 1) := by decide +kernel
theorem d1_18 : decode method_2_code 18 = .ok (.iconst 2, 1) := by decide +kernel
theorem d1_19 : decode method_2_code 19 = .ok (.if_icmp .ne 7, 3) := by decide +kernel
theorem d1_22 : decode method_2_code 22 = .ok (.getstatic 16, 3) := by decide +kernel
theorem d1_25 : decode method_2_code 25 = .ok (.areturn, 1) := by decide +kernel
theorem d1_26 : decode method_2_code 26 = .ok (.iload_n 0, 1) := by decide +kernel
theorem d1_27 : decode method_2_code 27 = .ok (.iconst 3, 1) := by decide +kernel
theorem d1_28 : decode method_2_code 28 = .ok (.if_icmp .ne 7, 3) := by decide +kernel
theorem d1_31 : decode method_2_code 31 = .ok (.getstatic 19, 3) := by decide +kernel
theorem d1_34 : decode method_2_code 34 = .ok (.areturn, 1) := by decide +kernel
theorem d1_35 : decode method_2_code 35 = .ok (.iload_n 0, 1) := by decide +kernel
theorem d1_36 : decode method_2_code 36 = .ok (.iconst 4, 1) := by decide +kernel
theorem d1_37 : decode method_2_code 37 = .ok (.if_icmp .ne 7, 3) := by decide +kernel
theorem d1_40 : decode method_2_code 40 = .ok (.getstatic 22, 3) := by decide +kernel
theorem d1_43 : decode method_2_code 43 = .ok (.areturn, 1) := by decide +kernel
theorem d1_44 : decode method_2_code 44 = .ok (.getstatic 25, 3) := by decide +kernel
theorem d1_47 : decode method_2_code 47 = .ok (.areturn, 1) := by decide +kernel
theorem pn_0 : plainName "com/example/muster/muster/KindProducesUnitPinLaw" = true := by first | (simp [plainName, overriddenIn]; done) | decide +kernel
theorem ef_rm1 (m : MethodId) (x0 : Int32) : entryFrame m #[(.int x0)] 1 = mkF m 0 #[.val (.int x0)] [] := by first | (simp [entryFrame, mkF, argsToLocals, Value.category]; done) | rfl
def Qrm1 (Z : State) (p1 : Int32) (aM : Addr) (aA : Addr) (aH : Addr) (aR : Addr) (aT : Addr) (aB : Addr) (h0 : Heap) (n0 : Nat) (v : Option Value) (h : Heap) (L : List Loc) : Prop := v = some (.ref (own_kind p1 aM aA aH aR aT aB)) ∧ Fr n0 L ∧ h = h0
set_option maxRecDepth 65536 in
set_option maxHeartbeats 40000000 in
theorem rm1 (l : Launch) (Z : State) (a0 : Array Value) (hw : ∀ d ∈ tables_1, d.before a0 Z = true) (ws : List Jvm.Cond) (p1 : Int32) (aM : Addr) (aA : Addr) (aH : Addr) (aR : Addr) (aT : Addr) (aB : Addr) (h0 : Heap) (n0 : Nat) (Z0 : n0 ≤ h0.size) (S_M : Sta Z h0 "com/example/muster/muster/Order$Kind" "MOVE" "Lcom/example/muster/muster/Order$Kind;" (.ref aM)) (S_A : Sta Z h0 "com/example/muster/muster/Order$Kind" "ATTACK" "Lcom/example/muster/muster/Order$Kind;" (.ref aA)) (S_H : Sta Z h0 "com/example/muster/muster/Order$Kind" "HARVEST" "Lcom/example/muster/muster/Order$Kind;" (.ref aH)) (S_R : Sta Z h0 "com/example/muster/muster/Order$Kind" "RETURN" "Lcom/example/muster/muster/Order$Kind;" (.ref aR)) (S_T : Sta Z h0 "com/example/muster/muster/Order$Kind" "TRAIN" "Lcom/example/muster/muster/Order$Kind;" (.ref aT)) (S_B : Sta Z h0 "com/example/muster/muster/Order$Kind" "BUILD" "Lcom/example/muster/muster/Order$Kind;" (.ref aB)) :
    MetFree l (⟨"com/example/muster/muster/KindProducesUnitPinLaw", "kindOf", "(I)Lcom/example/muster/muster/Order$Kind;"⟩ : MethodName) (head1 (Jvm.Cond.code (⟨"com/example/muster/muster/KindProducesUnitPinLaw", "kindOf", "(I)Lcom/example/muster/muster/Order$Kind;"⟩ : MethodName) method_2_code 1 (some (.object "com/example/muster/muster/Order$Kind")) :: ws) ({ frames := 0, cells := 0, slots := 0, locals := 0 } : Room)) (fun a U => a = #[(.int p1)] ∧ Z.Warmed39 U.vm ∧ U.heap = h0) (fun _ _ _ _ _ => True) (fun _ U o U' => ∃ v L, o = .returned v ∧ Qrm1 Z p1 aM aA aH aR aT aB h0 n0 v U'.heap L ∧ FrameEnd U o U' L ({ frames := 0, cells := 0, slots := 0, locals := 0 } : Room).cells ({ frames := 0, cells := 0, slots := 0, locals := 0 } : Room).slots) := by
  refine MetFree.of_bodySF (plainFor_of_name pn_0) hisR ?_
  intro p e s m args below meth c s₁ Bd hml0 hP hK
  obtain ⟨rfl, hZ, hh⟩ := hP
  have hx := Bd.exec
  have hby := Bd.bytes
  have hml : c.maxLocals = 1 := hml0
  have hown : s.vm.findClass "com/example/muster/muster/KindProducesUnitPinLaw" = some m.cls := findClass_of_methodNamed Bd.named
  have hnm := (name_of_methodNamed Bd.named Bd.method).1
  have X0 : Stand p l e ({ frames := 0, cells := 0, slots := 0, locals := 0 } : Room) s m #[(.int p1)] below meth c s₁ [] 0 0 := Stand.of_body Bd
  have e0 : s₁.heap = h0 := by rw [← hh, Bd.state]; rfl
  have N0 := Fr.nil n0
  have pre0 : ∀ t_, Steps p.tables e below (s₁.setTop (mkF m 0 #[.val (.int p1)] [])) t_ → Steps p.tables e below (s₁.setTop (entryFrame m #[(.int p1)] 1)) t_ := fun t_ k_ => castTop (ef_rm1 m p1) k_
  have pre101 : ∀ t_, Steps p.tables e below (s₁.setTop (mkF m 1 #[.val (.int p1)] [(.int p1)])) t_ → Steps p.tables e below (s₁.setTop (entryFrame m #[(.int p1)] 1)) t_ := fun t_ k_ => pre0 _ (by
    show Steps p.tables e below (s₁.setTop (mkF m 0 #[.val (.int p1)] [])) _
    refine XS.iloadN X0.here hx rfl (hb hby d1_0) rfl ?_
    exact k_)
  by_cases hc0 : p1 = (0 : Int32)
  · skip
    obtain ⟨T102, X102, e102, st102⟩ := getS2 X0 hx hZ hown (host := "") (Or.inl (hw _ (List.mem_of_getElem? (i := 6) rfl))) Via.refl e0 S_M (g := (mkF m 4 #[.val (.int p1)] [])) rfl (hb hby d1_4)
    have pre103 : ∀ t_, Steps p.tables e below (T102.setTop (mkF m 7 #[.val (.int p1)] [(.ref aM)])) t_ → Steps p.tables e below (s₁.setTop (entryFrame m #[(.int p1)] 1)) t_ := fun t_ k_ => pre101 _ (by
      show Steps p.tables e below (s₁.setTop (mkF m 1 #[.val (.int p1)] [(.int p1)])) _
      refine XS.ifNo X0.here hx rfl (hb hby d1_1) rfl ((if0 _ _).trans (teq hc0).2) ?_
      show Steps p.tables e below (s₁.setTop (mkF m 4 #[.val (.int p1)] [])) _
      refine st102 _ ?_
      exact k_)
    obtain ⟨fs, hr, hrun, hended, hW, hsame⟩ := X102.leave (v := some (.ref aM)) (fun h => by rw [Bd.returns] at h; cases h)
    refine ⟨_, _, pre103 _ ?_, hrun, hended, _, _, rfl, ?_, ⟨_, rfl⟩, hW, hsame.mono (by decide) (by decide)⟩
    · show Steps p.tables e below (T102.setTop (mkF m 7 #[.val (.int p1)] [(.ref aM)])) _
      jvm_step X102.here [X102.here.top, hx, (hb hby d1_7), X102.method', Bd.returns, Value.isRef, FieldType.isReference]
      first | (intro acts; rw [hr _ acts rfl rfl rfl]) | rw [hr _ _ rfl rfl rfl]
      exact Steps.refl _
    · show Qrm1 Z p1 aM aA aH aR aT aB h0 n0 _ T102.heap _
      rw [e102]
      exact ⟨by rw [own_kind, if_pos hc0], N0, rfl⟩
  · skip
    have pre104 : ∀ t_, Steps p.tables e below (s₁.setTop (mkF m 10 #[.val (.int p1)] [(.int (1 : Int32)), (.int p1)])) t_ → Steps p.tables e below (s₁.setTop (entryFrame m #[(.int p1)] 1)) t_ := fun t_ k_ => pre101 _ (by
      show Steps p.tables e below (s₁.setTop (mkF m 1 #[.val (.int p1)] [(.int p1)])) _
      refine XS.ifYes X0.here hx rfl (pc0 := 1) (pc' := 8) rfl (hb hby d1_1) rfl ((if0 _ _).trans (feq hc0).2) (by decide) (by decide) ?_
      show Steps p.tables e below (s₁.setTop (mkF m 8 #[.val (.int p1)] [])) _
      refine XS.iloadN X0.here hx rfl (hb hby d1_8) rfl ?_
      show Steps p.tables e below (s₁.setTop (mkF m 9 #[.val (.int p1)] [(.int p1)])) _
      refine XS.iconst X0.here hx rfl (hb hby d1_9) ?_
      exact k_)
    by_cases hc1 : p1 = (1 : Int32)
    · skip
      obtain ⟨T105, X105, e105, st105⟩ := getS2 X0 hx hZ hown (host := "") (Or.inl (hw _ (List.mem_of_getElem? (i := 22) rfl))) Via.refl e0 S_A (g := (mkF m 13 #[.val (.int p1)] [])) rfl (hb hby d1_13)
      have pre106 : ∀ t_, Steps p.tables e below (T105.setTop (mkF m 16 #[.val (.int p1)] [(.ref aA)])) t_ → Steps p.tables e below (s₁.setTop (entryFrame m #[(.int p1)] 1)) t_ := fun t_ k_ => pre104 _ (by
        show Steps p.tables e below (s₁.setTop (mkF m 10 #[.val (.int p1)] [(.int (1 : Int32)), (.int p1)])) _
        refine XS.icmpNo X0.here hx rfl (hb hby d1_10) rfl (teq hc1).2 ?_
        show Steps p.tables e below (s₁.setTop (mkF m 13 #[.val (.int p1)] [])) _
        refine st105 _ ?_
        exact k_)
      obtain ⟨fs, hr, hrun, hended, hW, hsame⟩ := X105.leave (v := some (.ref aA)) (fun h => by rw [Bd.returns] at h; cases h)
      refine ⟨_, _, pre106 _ ?_, hrun, hended, _, _, rfl, ?_, ⟨_, rfl⟩, hW, hsame.mono (by decide) (by decide)⟩
      · show Steps p.tables e below (T105.setTop (mkF m 16 #[.val (.int p1)] [(.ref aA)])) _
        jvm_step X105.here [X105.here.top, hx, (hb hby d1_16), X105.method', Bd.returns, Value.isRef, FieldType.isReference]
        first | (intro acts; rw [hr _ acts rfl rfl rfl]) | rw [hr _ _ rfl rfl rfl]
        exact Steps.refl _
      · show Qrm1 Z p1 aM aA aH aR aT aB h0 n0 _ T105.heap _
        rw [e105]
        exact ⟨by rw [own_kind, if_neg hc0, if_pos hc1], N0, rfl⟩
    · skip
      have pre107 : ∀ t_, Steps p.tables e below (s₁.setTop (mkF m 19 #[.val (.int p1)] [(.int (2 : Int32)), (.int p1)])) t_ → Steps p.tables e below (s₁.setTop (entryFrame m #[(.int p1)] 1)) t_ := fun t_ k_ => pre104 _ (by
        show Steps p.tables e below (s₁.setTop (mkF m 10 #[.val (.int p1)] [(.int (1 : Int32)), (.int p1)])) _
        refine XS.icmpYes X0.here hx rfl (pc0 := 10) (pc' := 17) rfl (hb hby d1_10) rfl (feq hc1).2 (by decide) (by decide) ?_
        show Steps p.tables e below (s₁.setTop (mkF m 17 #[.val (.int p1)] [])) _
        refine XS.iloadN X0.here hx rfl (hb hby d1_17) rfl ?_
        show Steps p.tables e below (s₁.setTop (mkF m 18 #[.val (.int p1)] [(.int p1)])) _
        refine XS.iconst X0.here hx rfl (hb hby d1_18) ?_
        exact k_)
      by_cases hc2 : p1 = (2 : Int32)
      · skip
        obtain ⟨T108, X108, e108, st108⟩ := getS2 X0 hx hZ hown (host := "") (Or.inl (hw _ (List.mem_of_getElem? (i := 20) rfl))) Via.refl e0 S_H (g := (mkF m 22 #[.val (.int p1)] [])) rfl (hb hby d1_22)
        have pre109 : ∀ t_, Steps p.tables e below (T108.setTop (mkF m 25 #[.val (.int p1)] [(.ref aH)])) t_ → Steps p.tables e below (s₁.setTop (entryFrame m #[(.int p1)] 1)) t_ := fun t_ k_ => pre107 _ (by
          show Steps p.tables e below (s₁.setTop (mkF m 19 #[.val (.int p1)] [(.int (2 : Int32)), (.int p1)])) _
          refine XS.icmpNo X0.here hx rfl (hb hby d1_19) rfl (teq hc2).2 ?_
          show Steps p.tables e below (s₁.setTop (mkF m 22 #[.val (.int p1)] [])) _
          refine st108 _ ?_
          exact k_)
        obtain ⟨fs, hr, hrun, hended, hW, hsame⟩ := X108.leave (v := some (.ref aH)) (fun h => by rw [Bd.returns] at h; cases h)
        refine ⟨_, _, pre109 _ ?_, hrun, hended, _, _, rfl, ?_, ⟨_, rfl⟩, hW, hsame.mono (by decide) (by decide)⟩
        · show Steps p.tables e below (T108.setTop (mkF m 25 #[.val (.int p1)] [(.ref aH)])) _
          jvm_step X108.here [X108.here.top, hx, (hb hby d1_25), X108.method', Bd.returns, Value.isRef, FieldType.isReference]
          first | (intro acts; rw [hr _ acts rfl rfl rfl]) | rw [hr _ _ rfl rfl rfl]
          exact Steps.refl _
        · show Qrm1 Z p1 aM aA aH aR aT aB h0 n0 _ T108.heap _
          rw [e108]
          exact ⟨by rw [own_kind, if_neg hc0, if_neg hc1, if_pos hc2], N0, rfl⟩
      · skip
        have pre110 : ∀ t_, Steps p.tables e below (s₁.setTop (mkF m 28 #[.val (.int p1)] [(.int (3 : Int32)), (.int p1)])) t_ → Steps p.tables e below (s₁.setTop (entryFrame m #[(.int p1)] 1)) t_ := fun t_ k_ => pre107 _ (by
          show Steps p.tables e below (s₁.setTop (mkF m 19 #[.val (.int p1)] [(.int (2 : Int32)), (.int p1)])) _
          refine XS.icmpYes X0.here hx rfl (pc0 := 19) (pc' := 26) rfl (hb hby d1_19) rfl (feq hc2).2 (by decide) (by decide) ?_
          show Steps p.tables e below (s₁.setTop (mkF m 26 #[.val (.int p1)] [])) _
          refine XS.iloadN X0.here hx rfl (hb hby d1_26) rfl ?_
          show Steps p.tables e below (s₁.setTop (mkF m 27 #[.val (.int p1)] [(.int p1)])) _
          refine XS.iconst X0.here hx rfl (hb hby d1_27) ?_
          exact k_)
        by_cases hc3 : p1 = (3 : Int32)
        · skip
          obtain ⟨T111, X111, e111, st111⟩ := getS2 X0 hx hZ hown (host := "") (Or.inl (hw _ (List.mem_of_getElem? (i := 18) rfl))) Via.refl e0 S_R (g := (mkF m 31 #[.val (.int p1)] [])) rfl (hb hby d1_31)
          have pre112 : ∀ t_, Steps p.tables e below (T111.setTop (mkF m 34 #[.val (.int p1)] [(.ref aR)])) t_ → Steps p.tables e below (s₁.setTop (entryFrame m #[(.int p1)] 1)) t_ := fun t_ k_ => pre110 _ (by
            show Steps p.tables e below (s₁.setTop (mkF m 28 #[.val (.int p1)] [(.int (3 : Int32)), (.int p1)])) _
            refine XS.icmpNo X0.here hx rfl (hb hby d1_28) rfl (teq hc3).2 ?_
            show Steps p.tables e below (s₁.setTop (mkF m 31 #[.val (.int p1)] [])) _
            refine st111 _ ?_
            exact k_)
          obtain ⟨fs, hr, hrun, hended, hW, hsame⟩ := X111.leave (v := some (.ref aR)) (fun h => by rw [Bd.returns] at h; cases h)
          refine ⟨_, _, pre112 _ ?_, hrun, hended, _, _, rfl, ?_, ⟨_, rfl⟩, hW, hsame.mono (by decide) (by decide)⟩
          · show Steps p.tables e below (T111.setTop (mkF m 34 #[.val (.int p1)] [(.ref aR)])) _
            jvm_step X111.here [X111.here.top, hx, (hb hby d1_34), X111.method', Bd.returns, Value.isRef, FieldType.isReference]
            first | (intro acts; rw [hr _ acts rfl rfl rfl]) | rw [hr _ _ rfl rfl rfl]
            exact Steps.refl _
          · show Qrm1 Z p1 aM aA aH aR aT aB h0 n0 _ T111.heap _
            rw [e111]
            exact ⟨by rw [own_kind, if_neg hc0, if_neg hc1, if_neg hc2, if_pos hc3], N0, rfl⟩
        · skip
          have pre113 : ∀ t_, Steps p.tables e below (s₁.setTop (mkF m 37 #[.val (.int p1)] [(.int (4 : Int32)), (.int p1)])) t_ → Steps p.tables e below (s₁.setTop (entryFrame m #[(.int p1)] 1)) t_ := fun t_ k_ => pre110 _ (by
            show Steps p.tables e below (s₁.setTop (mkF m 28 #[.val (.int p1)] [(.int (3 : Int32)), (.int p1)])) _
            refine XS.icmpYes X0.here hx rfl (pc0 := 28) (pc' := 35) rfl (hb hby d1_28) rfl (feq hc3).2 (by decide) (by decide) ?_
            show Steps p.tables e below (s₁.setTop (mkF m 35 #[.val (.int p1)] [])) _
            refine XS.iloadN X0.here hx rfl (hb hby d1_35) rfl ?_
            show Steps p.tables e below (s₁.setTop (mkF m 36 #[.val (.int p1)] [(.int p1)])) _
            refine XS.iconst X0.here hx rfl (hb hby d1_36) ?_
            exact k_)
          by_cases hc4 : p1 = (4 : Int32)
          · skip
            obtain ⟨T114, X114, e114, st114⟩ := getS2 X0 hx hZ hown (host := "") (Or.inl (hw _ (List.mem_of_getElem? (i := 25) rfl))) Via.refl e0 S_T (g := (mkF m 40 #[.val (.int p1)] [])) rfl (hb hby d1_40)
            have pre115 : ∀ t_, Steps p.tables e below (T114.setTop (mkF m 43 #[.val (.int p1)] [(.ref aT)])) t_ → Steps p.tables e below (s₁.setTop (entryFrame m #[(.int p1)] 1)) t_ := fun t_ k_ => pre113 _ (by
              show Steps p.tables e below (s₁.setTop (mkF m 37 #[.val (.int p1)] [(.int (4 : Int32)), (.int p1)])) _
              refine XS.icmpNo X0.here hx rfl (hb hby d1_37) rfl (teq hc4).2 ?_
              show Steps p.tables e below (s₁.setTop (mkF m 40 #[.val (.int p1)] [])) _
              refine st114 _ ?_
              exact k_)
            obtain ⟨fs, hr, hrun, hended, hW, hsame⟩ := X114.leave (v := some (.ref aT)) (fun h => by rw [Bd.returns] at h; cases h)
            refine ⟨_, _, pre115 _ ?_, hrun, hended, _, _, rfl, ?_, ⟨_, rfl⟩, hW, hsame.mono (by decide) (by decide)⟩
            · show Steps p.tables e below (T114.setTop (mkF m 43 #[.val (.int p1)] [(.ref aT)])) _
              jvm_step X114.here [X114.here.top, hx, (hb hby d1_43), X114.method', Bd.returns, Value.isRef, FieldType.isReference]
              first | (intro acts; rw [hr _ acts rfl rfl rfl]) | rw [hr _ _ rfl rfl rfl]
              exact Steps.refl _
            · show Qrm1 Z p1 aM aA aH aR aT aB h0 n0 _ T114.heap _
              rw [e114]
              exact ⟨by rw [own_kind, if_neg hc0, if_neg hc1, if_neg hc2, if_neg hc3, if_pos hc4], N0, rfl⟩
          · skip
            obtain ⟨T116, X116, e116, st116⟩ := getS2 X0 hx hZ hown (host := "") (Or.inl (hw _ (List.mem_of_getElem? (i := 24) rfl))) Via.refl e0 S_B (g := (mkF m 44 #[.val (.int p1)] [])) rfl (hb hby d1_44)
            have pre117 : ∀ t_, Steps p.tables e below (T116.setTop (mkF m 47 #[.val (.int p1)] [(.ref aB)])) t_ → Steps p.tables e below (s₁.setTop (entryFrame m #[(.int p1)] 1)) t_ := fun t_ k_ => pre113 _ (by
              show Steps p.tables e below (s₁.setTop (mkF m 37 #[.val (.int p1)] [(.int (4 : Int32)), (.int p1)])) _
              refine XS.icmpYes X0.here hx rfl (pc0 := 37) (pc' := 44) rfl (hb hby d1_37) rfl (feq hc4).2 (by decide) (by decide) ?_
              show Steps p.tables e below (s₁.setTop (mkF m 44 #[.val (.int p1)] [])) _
              refine st116 _ ?_
              exact k_)
            obtain ⟨fs, hr, hrun, hended, hW, hsame⟩ := X116.leave (v := some (.ref aB)) (fun h => by rw [Bd.returns] at h; cases h)
            refine ⟨_, _, pre117 _ ?_, hrun, hended, _, _, rfl, ?_, ⟨_, rfl⟩, hW, hsame.mono (by decide) (by decide)⟩
            · show Steps p.tables e below (T116.setTop (mkF m 47 #[.val (.int p1)] [(.ref aB)])) _
              jvm_step X116.here [X116.here.top, hx, (hb hby d1_47), X116.method', Bd.returns, Value.isRef, FieldType.isReference]
              first | (intro acts; rw [hr _ acts rfl rfl rfl]) | rw [hr _ _ rfl rfl rfl]
              exact Steps.refl _
            · show Qrm1 Z p1 aM aA aH aR aT aB h0 n0 _ T116.heap _
              rw [e116]
              exact ⟨by rw [own_kind, if_neg hc0, if_neg hc1, if_neg hc2, if_neg hc3, if_neg hc4], N0, rfl⟩
theorem d2_0 : decode prog_36_method_4_code 0 = .ok (.aload_n 0, 1) := by decide +kernel
theorem d2_1 : decode prog_36_method_4_code 1 = .ok (.getstatic 16, 3) := by decide +kernel
theorem d2_4 : decode prog_36_method_4_code 4 = .ok (.if_acmp .eq 10, 3) := by decide +kernel
theorem d2_7 : decode prog_36_method_4_code 7 = .ok (.aload_n 0, 1) := by decide +kernel
theorem d2_8 : decode prog_36_method_4_code 8 = .ok (.getstatic 19, 3) := by decide +kernel
theorem d2_11 : decode prog_36_method_4_code 11 = .ok (.if_acmp .ne 7, 3) := by decide +kernel
theorem d2_14 : decode prog_36_method_4_code 14 = .ok (.iconst 1, 1) := by decide +kernel
theorem d2_15 : decode prog_36_method_4_code 15 = .ok (.goto 4, 3) := by decide +kernel
theorem d2_18 : decode prog_36_method_4_code 18 = .ok (.iconst 0, 1) := by decide +kernel
theorem d2_19 : decode prog_36_method_4_code 19 = .ok (.ireturn, 1) := by decide +kernel
theorem pn_1 : plainName "com/example/muster/muster/Order$Kind" = true := by first | (simp [plainName, overriddenIn]; done) | decide +kernel
theorem ef_rm2 (m : MethodId) (x0 : Addr) : entryFrame m #[(.ref x0)] 1 = mkF m 0 #[.val (.ref x0)] [] := by first | (simp [entryFrame, mkF, argsToLocals, Value.category]; done) | rfl
def Qrm2 (Z : State) (a1 : Addr) (aT : Addr) (aB : Addr) (h0 : Heap) (n0 : Nat) (v : Option Value) (h : Heap) (L : List Loc) : Prop := v = some (.int (own_prod a1 aT aB)) ∧ Fr n0 L ∧ h = h0
set_option maxRecDepth 65536 in
set_option maxHeartbeats 40000000 in
theorem rm2 (l : Launch) (Z : State) (a0 : Array Value) (hw : ∀ d ∈ tables_1, d.before a0 Z = true) (ws : List Jvm.Cond) (a1 : Addr) (aT : Addr) (aB : Addr) (h0 : Heap) (n0 : Nat) (Z0 : n0 ≤ h0.size) (S_T : Sta Z h0 "com/example/muster/muster/Order$Kind" "TRAIN" "Lcom/example/muster/muster/Order$Kind;" (.ref aT)) (S_B : Sta Z h0 "com/example/muster/muster/Order$Kind" "BUILD" "Lcom/example/muster/muster/Order$Kind;" (.ref aB)) :
    MetFree l (⟨"com/example/muster/muster/Order$Kind", "producesUnit", "()Z"⟩ : MethodName) (head1 (Jvm.Cond.code (⟨"com/example/muster/muster/Order$Kind", "producesUnit", "()Z"⟩ : MethodName) prog_36_method_4_code 1 (some .boolean) :: ws) ({ frames := 0, cells := 0, slots := 0, locals := 0 } : Room)) (fun a U => a = #[(.ref a1)] ∧ Z.Warmed39 U.vm ∧ U.heap = h0) (fun _ _ _ _ _ => True) (fun _ U o U' => ∃ v L, o = .returned v ∧ Qrm2 Z a1 aT aB h0 n0 v U'.heap L ∧ FrameEnd U o U' L ({ frames := 0, cells := 0, slots := 0, locals := 0 } : Room).cells ({ frames := 0, cells := 0, slots := 0, locals := 0 } : Room).slots) := by
  refine MetFree.of_bodySF (plainFor_of_name pn_1) hisR ?_
  intro p e s m args below meth c s₁ Bd hml0 hP hK
  obtain ⟨rfl, hZ, hh⟩ := hP
  have hx := Bd.exec
  have hby := Bd.bytes
  have hml : c.maxLocals = 1 := hml0
  have hown : s.vm.findClass "com/example/muster/muster/Order$Kind" = some m.cls := findClass_of_methodNamed Bd.named
  have hnm := (name_of_methodNamed Bd.named Bd.method).1
  have X0 : Stand p l e ({ frames := 0, cells := 0, slots := 0, locals := 0 } : Room) s m #[(.ref a1)] below meth c s₁ [] 0 0 := Stand.of_body Bd
  have e0 : s₁.heap = h0 := by rw [← hh, Bd.state]; rfl
  have N0 := Fr.nil n0
  have pre0 : ∀ t_, Steps p.tables e below (s₁.setTop (mkF m 0 #[.val (.ref a1)] [])) t_ → Steps p.tables e below (s₁.setTop (entryFrame m #[(.ref a1)] 1)) t_ := fun t_ k_ => castTop (ef_rm2 m a1) k_
  obtain ⟨T101, X101, e101, st101⟩ := getS2 X0 hx hZ hown (host := "") (Or.inl (hw _ (List.mem_of_getElem? (i := 14) rfl))) Via.refl e0 S_T (g := (mkF m 1 #[.val (.ref a1)] [(.ref a1)])) rfl (hb hby d2_1)
  have pre102 : ∀ t_, Steps p.tables e below (T101.setTop (mkF m 4 #[.val (.ref a1)] [(.ref aT), (.ref a1)])) t_ → Steps p.tables e below (s₁.setTop (entryFrame m #[(.ref a1)] 1)) t_ := fun t_ k_ => pre0 _ (by
    show Steps p.tables e below (s₁.setTop (mkF m 0 #[.val (.ref a1)] [])) _
    refine XS.aloadN X0.here hx rfl (hb hby d2_0) rfl rfl ?_
    show Steps p.tables e below (s₁.setTop (mkF m 1 #[.val (.ref a1)] [(.ref a1)])) _
    refine st101 _ ?_
    exact k_)
  by_cases ha : a1 = aT
  · skip
    have pre103 : ∀ t_, Steps p.tables e below (T101.setTop (mkF m 19 #[.val (.ref a1)] [(.int (1 : Int32))])) t_ → Steps p.tables e below (s₁.setTop (entryFrame m #[(.ref a1)] 1)) t_ := fun t_ k_ => pre102 _ (by
      show Steps p.tables e below (T101.setTop (mkF m 4 #[.val (.ref a1)] [(.ref aT), (.ref a1)])) _
      refine Jvm.RoadKit.acmp (g := (mkF m 4 #[.val (.ref a1)] [(.ref aT), (.ref a1)])) X101 hx rfl rfl rfl (pc0 := 4) (pc' := 14) (same := true) rfl (hb hby d2_4) rfl (decide_eq_true (congrArg Value.ref ha)) (by decide) (by decide) ?_
      show Steps p.tables e below (T101.setTop (mkF m 14 #[.val (.ref a1)] [])) _
      refine XS.iconst X101.here hx rfl (hb hby d2_14) ?_
      show Steps p.tables e below (T101.setTop (mkF m 15 #[.val (.ref a1)] [(.int (1 : Int32))])) _
      refine XS.goto X101.here hx rfl (pc0 := 15) (pc' := 19) rfl (hb hby d2_15) (by decide) (by decide) ?_
      exact k_)
    obtain ⟨fs, hr, hrun, hended, hW, hsame⟩ := X101.leave (v := some (.int (1 : Int32))) (fun h => by rw [Bd.returns] at h; cases h)
    refine ⟨_, _, pre103 _ ?_, hrun, hended, _, _, rfl, ?_, ⟨_, rfl⟩, hW, hsame.mono (by decide) (by decide)⟩
    · show Steps p.tables e below (T101.setTop (mkF m 19 #[.val (.ref a1)] [(.int (1 : Int32))])) _
      exact retN X101 hx (t := .boolean) Bd.returns (by simp) (hb hby d2_19) hr
    · show Qrm2 Z a1 aT aB h0 n0 _ T101.heap _
      rw [e101]
      exact ⟨by rw [own_prod, if_pos ha], N0, rfl⟩
  · skip
    obtain ⟨T104, X104, e104, st104⟩ := getS2 X101 hx hZ hown (host := "") (Or.inl (hw _ (List.mem_of_getElem? (i := 16) rfl))) Via.refl e101 S_B (g := (mkF m 8 #[.val (.ref a1)] [(.ref a1)])) rfl (hb hby d2_8)
    have pre105 : ∀ t_, Steps p.tables e below (T104.setTop (mkF m 11 #[.val (.ref a1)] [(.ref aB), (.ref a1)])) t_ → Steps p.tables e below (s₁.setTop (entryFrame m #[(.ref a1)] 1)) t_ := fun t_ k_ => pre102 _ (by
      show Steps p.tables e below (T101.setTop (mkF m 4 #[.val (.ref a1)] [(.ref aT), (.ref a1)])) _
      refine Jvm.RoadKit.acmp (g := (mkF m 4 #[.val (.ref a1)] [(.ref aT), (.ref a1)])) X101 hx rfl rfl rfl (pc0 := 4) (pc' := 7) (same := false) rfl (hb hby d2_4) rfl (decide_eq_false fun q => ha (Value.ref.inj q)) (by decide) (by decide) ?_
      show Steps p.tables e below (T101.setTop (mkF m 7 #[.val (.ref a1)] [])) _
      refine XS.aloadN X101.here hx rfl (hb hby d2_7) rfl rfl ?_
      show Steps p.tables e below (T101.setTop (mkF m 8 #[.val (.ref a1)] [(.ref a1)])) _
      refine st104 _ ?_
      exact k_)
    by_cases hbb : a1 = aB
    · skip
      have pre106 : ∀ t_, Steps p.tables e below (T104.setTop (mkF m 19 #[.val (.ref a1)] [(.int (1 : Int32))])) t_ → Steps p.tables e below (s₁.setTop (entryFrame m #[(.ref a1)] 1)) t_ := fun t_ k_ => pre105 _ (by
        show Steps p.tables e below (T104.setTop (mkF m 11 #[.val (.ref a1)] [(.ref aB), (.ref a1)])) _
        refine Jvm.RoadKit.acmp (g := (mkF m 11 #[.val (.ref a1)] [(.ref aB), (.ref a1)])) X104 hx rfl rfl rfl (pc0 := 11) (pc' := 14) (same := true) rfl (hb hby d2_11) rfl (decide_eq_true (congrArg Value.ref hbb)) (by decide) (by decide) ?_
        show Steps p.tables e below (T104.setTop (mkF m 14 #[.val (.ref a1)] [])) _
        refine XS.iconst X104.here hx rfl (hb hby d2_14) ?_
        show Steps p.tables e below (T104.setTop (mkF m 15 #[.val (.ref a1)] [(.int (1 : Int32))])) _
        refine XS.goto X104.here hx rfl (pc0 := 15) (pc' := 19) rfl (hb hby d2_15) (by decide) (by decide) ?_
        exact k_)
      obtain ⟨fs, hr, hrun, hended, hW, hsame⟩ := X104.leave (v := some (.int (1 : Int32))) (fun h => by rw [Bd.returns] at h; cases h)
      refine ⟨_, _, pre106 _ ?_, hrun, hended, _, _, rfl, ?_, ⟨_, rfl⟩, hW, hsame.mono (by decide) (by decide)⟩
      · show Steps p.tables e below (T104.setTop (mkF m 19 #[.val (.ref a1)] [(.int (1 : Int32))])) _
        exact retN X104 hx (t := .boolean) Bd.returns (by simp) (hb hby d2_19) hr
      · show Qrm2 Z a1 aT aB h0 n0 _ T104.heap _
        rw [e104]
        exact ⟨by rw [own_prod, if_neg ha, if_pos hbb], N0, rfl⟩
    · skip
      have pre107 : ∀ t_, Steps p.tables e below (T104.setTop (mkF m 19 #[.val (.ref a1)] [(.int (0 : Int32))])) t_ → Steps p.tables e below (s₁.setTop (entryFrame m #[(.ref a1)] 1)) t_ := fun t_ k_ => pre105 _ (by
        show Steps p.tables e below (T104.setTop (mkF m 11 #[.val (.ref a1)] [(.ref aB), (.ref a1)])) _
        refine Jvm.RoadKit.acmp (g := (mkF m 11 #[.val (.ref a1)] [(.ref aB), (.ref a1)])) X104 hx rfl rfl rfl (pc0 := 11) (pc' := 18) (same := false) rfl (hb hby d2_11) rfl (decide_eq_false fun q => hbb (Value.ref.inj q)) (by decide) (by decide) ?_
        show Steps p.tables e below (T104.setTop (mkF m 18 #[.val (.ref a1)] [])) _
        refine XS.iconst X104.here hx rfl (hb hby d2_18) ?_
        exact k_)
      obtain ⟨fs, hr, hrun, hended, hW, hsame⟩ := X104.leave (v := some (.int (0 : Int32))) (fun h => by rw [Bd.returns] at h; cases h)
      refine ⟨_, _, pre107 _ ?_, hrun, hended, _, _, rfl, ?_, ⟨_, rfl⟩, hW, hsame.mono (by decide) (by decide)⟩
      · show Steps p.tables e below (T104.setTop (mkF m 19 #[.val (.ref a1)] [(.int (0 : Int32))])) _
        exact retN X104 hx (t := .boolean) Bd.returns (by simp) (hb hby d2_19) hr
      · show Qrm2 Z a1 aT aB h0 n0 _ T104.heap _
        rw [e104]
        exact ⟨by rw [own_prod, if_neg ha, if_neg hbb], N0, rfl⟩
theorem pd_0 : parseMethodDescriptor "(I)Lcom/example/muster/muster/Order$Kind;" = some ⟨[.int], some (.object "com/example/muster/muster/Order$Kind")⟩ := by decide +kernel
theorem pd_1 : parseMethodDescriptor "()Z" = some ⟨[], some .boolean⟩ := by decide +kernel
theorem ef_rm0 (m : MethodId) (x0 : Int32) : entryFrame m #[(.int x0)] maxLocals = mkF m 0 #[.val (.int x0), .unset, .unset, .unset] [] := by first | (simp [entryFrame, mkF, argsToLocals, Value.category, maxLocals]; done) | rfl
def Qrm0 (Z : State) (p1 : Int32) (aM : Addr) (aA : Addr) (aH : Addr) (aR : Addr) (aT : Addr) (aB : Addr) (h0 : Heap) (n0 : Nat) (v : Option Value) (h : Heap) (L : List Loc) : Prop := v = some (.int 1) ∧ Fr n0 L
set_option maxRecDepth 65536 in
set_option maxHeartbeats 40000000 in
theorem rm0 (l : Launch) (Z : State) (a0 : Array Value) (hw : ∀ d ∈ tables_1, d.before a0 Z = true) (ws : List Jvm.Cond) (p1 : Int32) (aM : Addr) (aA : Addr) (aH : Addr) (aR : Addr) (aT : Addr) (aB : Addr) (h0 : Heap) (n0 : Nat) (Z0 : n0 ≤ h0.size) (S_M : Sta Z h0 "com/example/muster/muster/Order$Kind" "MOVE" "Lcom/example/muster/muster/Order$Kind;" (.ref aM)) (S_A : Sta Z h0 "com/example/muster/muster/Order$Kind" "ATTACK" "Lcom/example/muster/muster/Order$Kind;" (.ref aA)) (S_H : Sta Z h0 "com/example/muster/muster/Order$Kind" "HARVEST" "Lcom/example/muster/muster/Order$Kind;" (.ref aH)) (S_R : Sta Z h0 "com/example/muster/muster/Order$Kind" "RETURN" "Lcom/example/muster/muster/Order$Kind;" (.ref aR)) (S_T : Sta Z h0 "com/example/muster/muster/Order$Kind" "TRAIN" "Lcom/example/muster/muster/Order$Kind;" (.ref aT)) (S_B : Sta Z h0 "com/example/muster/muster/Order$Kind" "BUILD" "Lcom/example/muster/muster/Order$Kind;" (.ref aB)) (E_M : Exa Z h0 aM "com/example/muster/muster/Order$Kind") (E_A : Exa Z h0 aA "com/example/muster/muster/Order$Kind") (E_H : Exa Z h0 aH "com/example/muster/muster/Order$Kind") (E_R : Exa Z h0 aR "com/example/muster/muster/Order$Kind") (E_T : Exa Z h0 aT "com/example/muster/muster/Order$Kind") (E_B : Exa Z h0 aB "com/example/muster/muster/Order$Kind") (n1 : aM ≠ aT) (n2 : aA ≠ aT) (n3 : aH ≠ aT) (n4 : aR ≠ aT) (m1 : aM ≠ aB) (m2 : aA ≠ aB) (m3 : aH ≠ aB) (m4 : aR ≠ aB) :
    MetFree l x (head1 (Jvm.Cond.code x code maxLocals ret :: ws) room_1) (fun a U => a = #[(.int p1)] ∧ Z.Warmed39 U.vm ∧ U.heap = h0) (fun _ _ _ _ _ => True) (fun _ U o U' => ∃ v L, o = .returned v ∧ Qrm0 Z p1 aM aA aH aR aT aB h0 n0 v U'.heap L ∧ FrameEnd U o U' L room_1.cells room_1.slots) := by
  refine MetFree.of_bodySF (plainFor_of_name pn_0) hisR ?_
  intro p e s m args below meth c s₁ Bd hml0 hP hK
  obtain ⟨rfl, hZ, hh⟩ := hP
  have hx := Bd.exec
  have hby := Bd.bytes
  have hml : c.maxLocals = 4 := hml0
  have hown : s.vm.findClass "com/example/muster/muster/KindProducesUnitPinLaw" = some m.cls := findClass_of_methodNamed Bd.named
  have hnm := (name_of_methodNamed Bd.named Bd.method).1
  have X0 : Stand p l e room_1 s m #[(.int p1)] below meth c s₁ [] 0 0 := Stand.of_body Bd
  have e0 : s₁.heap = h0 := by rw [← hh, Bd.state]; rfl
  have N0 := Fr.nil n0
  have pre0 : ∀ t_, Steps p.tables e below (s₁.setTop (mkF m 0 #[.val (.int p1), .unset, .unset, .unset] [])) t_ → Steps p.tables e below (s₁.setTop (entryFrame m #[(.int p1)] maxLocals)) t_ := fun t_ k_ => castTop (ef_rm0 m p1) k_
  obtain ⟨k, hv_k, pre101⟩ : ∃ z_ : Int32, z_ = ((p1 &&& (2147483647 : Int32)) % (6 : Int32)) ∧ ∀ t_, Steps p.tables e below (s₁.setTop (mkF m 8 #[.val (.int p1), .val (.int z_), .unset, .unset] [])) t_ → Steps p.tables e below (s₁.setTop (entryFrame m #[(.int p1)] maxLocals)) t_ := ⟨_, rfl, fun t_ k_ => pre0 _ (by
    show Steps p.tables e below (s₁.setTop (mkF m 0 #[.val (.int p1), .unset, .unset, .unset] [])) _
    refine XS.iloadN X0.here hx rfl (hb hby at_0) rfl ?_
    show Steps p.tables e below (s₁.setTop (mkF m 1 #[.val (.int p1), .unset, .unset, .unset] [(.int p1)])) _
    refine X0.ldcInt hx hown (mvT hZ (hw _ (List.mem_of_getElem? (i := 0) rfl))) (g := (mkF m 1 #[.val (.int p1), .unset, .unset, .unset] [(.int p1)])) rfl (hb hby at_1) _ ?_
    show Steps p.tables e below (s₁.setTop (mkF m 3 #[.val (.int p1), .unset, .unset, .unset] [(.int (2147483647 : Int32)), (.int p1)])) _
    refine XS.iand X0.here hx rfl (hb hby at_3) rfl ?_
    show Steps p.tables e below (s₁.setTop (mkF m 4 #[.val (.int p1), .unset, .unset, .unset] [(.int (p1 &&& (2147483647 : Int32)))])) _
    refine XS.bipush X0.here hx rfl (hb hby at_4) ?_
    show Steps p.tables e below (s₁.setTop (mkF m 6 #[.val (.int p1), .unset, .unset, .unset] [(.int (6 : Int32)), (.int (p1 &&& (2147483647 : Int32)))])) _
    refine iremM X0 hx rfl (hb hby at_6) rfl (by decide) ?_
    show Steps p.tables e below (s₁.setTop (mkF m 7 #[.val (.int p1), .unset, .unset, .unset] [(.int ((p1 &&& (2147483647 : Int32)) % (6 : Int32)))])) _
    refine XS.istoreN X0.here hx rfl (hb hby at_7) rfl (l' := #[.val (.int p1), .val (.int ((p1 &&& (2147483647 : Int32)) % (6 : Int32))), .unset, .unset]) rfl ?_
    exact k_)⟩
  have hk : k = 0 ∨ k = 1 ∨ k = 2 ∨ k = 3 ∨ k = 4 ∨ k = 5 := by rw [hv_k]; exact own_k6 p1
  obtain ⟨T102, h102, k_b, X102, e102, Ext_b, A_b, st102⟩ := newP X0 hx hZ (hw _ (List.mem_of_getElem? (i := 1) rfl)) e0 (g := (mkF m 10 #[.val (.int p1), .val (.int k), .unset, .unset] [(.int (6 : Int32))])) rfl (hb hby at_10) rfl (by decide) (cap := 6) (by decide) (by decide) (by decide) (by decide)
  obtain ⟨b, eq_b⟩ : ∃ z, z = h0.size := ⟨_, rfl⟩
  rw [← eq_b] at A_b st102
  have g_b : n0 ≤ b := Nat.le_trans Z0 (Nat.le_of_eq eq_b.symm)
  have S_M_103 := S_M.ext Ext_b
  have ne_aM_b : aM ≠ b := Nat.ne_of_lt (Nat.lt_of_lt_of_le E_M.lt (Nat.le_of_eq eq_b.symm))
  have E_M_104 := E_M.ext Ext_b
  have S_A_105 := S_A.ext Ext_b
  have ne_aA_b : aA ≠ b := Nat.ne_of_lt (Nat.lt_of_lt_of_le E_A.lt (Nat.le_of_eq eq_b.symm))
  have E_A_106 := E_A.ext Ext_b
  have S_H_107 := S_H.ext Ext_b
  have ne_aH_b : aH ≠ b := Nat.ne_of_lt (Nat.lt_of_lt_of_le E_H.lt (Nat.le_of_eq eq_b.symm))
  have E_H_108 := E_H.ext Ext_b
  have S_R_109 := S_R.ext Ext_b
  have ne_aR_b : aR ≠ b := Nat.ne_of_lt (Nat.lt_of_lt_of_le E_R.lt (Nat.le_of_eq eq_b.symm))
  have E_R_110 := E_R.ext Ext_b
  have S_T_111 := S_T.ext Ext_b
  have ne_aT_b : aT ≠ b := Nat.ne_of_lt (Nat.lt_of_lt_of_le E_T.lt (Nat.le_of_eq eq_b.symm))
  have E_T_112 := E_T.ext Ext_b
  have S_B_113 := S_B.ext Ext_b
  have ne_aB_b : aB ≠ b := Nat.ne_of_lt (Nat.lt_of_lt_of_le E_B.lt (Nat.le_of_eq eq_b.symm))
  have E_B_114 := E_B.ext Ext_b
  have Z115 : n0 ≤ h102.size := Nat.le_trans Z0 (Ext_b.1)
  have V_b : Arv Z h102 b k_b .boolean (6 : Int32) [(.int (0 : Int32)), (.int (0 : Int32)), (.int (0 : Int32)), (.int (0 : Int32)), (.int (0 : Int32)), (.int (0 : Int32))] (.int (0 : Int32)) := (Arv.new A_b (by decide)).pad (pad_rep [] (.int (0 : Int32)) 6)
  obtain ⟨cl116, Ar116, qk116, Sz116, Ng116, Hs116, Gs116⟩ := V_b
  have hin116 : ¬ ((0 : Int32) < 0 ∨ cl116.slots.size ≤ ((0 : Int32)).toNatClampNeg) := inb_of Sz116 ⟨by decide, by decide⟩
  obtain ⟨T117, h117, X117, e117, W117, st117⟩ := stZ X102 hx hZ e102 Ar116 (j := (0 : Int32)) hin116 (g := (mkF m 15 #[.val (.int p1), .val (.int k), .unset, .unset] [(.int (0 : Int32)), (.int (0 : Int32)), (.ref b), (.ref b)])) rfl rfl (hb hby at_15)
  have S_M_118 := S_M_103.wr W117
  have E_M_119 := E_M_104.wr W117
  have S_A_120 := S_A_105.wr W117
  have E_A_121 := E_A_106.wr W117
  have S_H_122 := S_H_107.wr W117
  have E_H_123 := E_H_108.wr W117
  have S_R_124 := S_R_109.wr W117
  have E_R_125 := E_R_110.wr W117
  have S_T_126 := S_T_111.wr W117
  have E_T_127 := E_T_112.wr W117
  have S_B_128 := S_B_113.wr W117
  have E_B_129 := E_B_114.wr W117
  have V_b_117 : Arv Z h117 b k_b .boolean (6 : Int32) [(.int (0 : Int32)), (.int (0 : Int32)), (.int (0 : Int32)), (.int (0 : Int32)), (.int (0 : Int32)), (.int (0 : Int32))] (.int (0 : Int32)) := Arv.set Ar116 qk116 Sz116 Ng116 Hs116 Gs116 (fits_nar_bool _) W117 0 rfl (Nat.le_of_ble_eq_true rfl)
  have N117 := Fr.snoc X117 N0 g_b
  have Z136 : n0 ≤ h117.size := Nat.le_trans Z115 ((Keep.of_wr W117).1)
  obtain ⟨cl137, Ar137, qk137, Sz137, Ng137, Hs137, Gs137⟩ := V_b_117
  have hin137 : ¬ ((1 : Int32) < 0 ∨ cl137.slots.size ≤ ((1 : Int32)).toNatClampNeg) := inb_of Sz137 ⟨by decide, by decide⟩
  obtain ⟨T138, h138, X138, e138, W138, st138⟩ := stZ X117 hx hZ e117 Ar137 (j := (1 : Int32)) hin137 (g := (mkF m 19 #[.val (.int p1), .val (.int k), .unset, .unset] [(.int (0 : Int32)), (.int (1 : Int32)), (.ref b), (.ref b)])) rfl rfl (hb hby at_19)
  have S_M_139 := S_M_118.wr W138
  have E_M_140 := E_M_119.wr W138
  have S_A_141 := S_A_120.wr W138
  have E_A_142 := E_A_121.wr W138
  have S_H_143 := S_H_122.wr W138
  have E_H_144 := E_H_123.wr W138
  have S_R_145 := S_R_124.wr W138
  have E_R_146 := E_R_125.wr W138
  have S_T_147 := S_T_126.wr W138
  have E_T_148 := E_T_127.wr W138
  have S_B_149 := S_B_128.wr W138
  have E_B_150 := E_B_129.wr W138
  have V_b_138 : Arv Z h138 b k_b .boolean (6 : Int32) [(.int (0 : Int32)), (.int (0 : Int32)), (.int (0 : Int32)), (.int (0 : Int32)), (.int (0 : Int32)), (.int (0 : Int32))] (.int (0 : Int32)) := Arv.set Ar137 qk137 Sz137 Ng137 Hs137 Gs137 (fits_nar_bool _) W138 1 rfl (Nat.le_of_ble_eq_true rfl)
  have N138 := Fr.snoc X138 N117 g_b
  have Z157 : n0 ≤ h138.size := Nat.le_trans Z136 ((Keep.of_wr W138).1)
  obtain ⟨cl158, Ar158, qk158, Sz158, Ng158, Hs158, Gs158⟩ := V_b_138
  have hin158 : ¬ ((2 : Int32) < 0 ∨ cl158.slots.size ≤ ((2 : Int32)).toNatClampNeg) := inb_of Sz158 ⟨by decide, by decide⟩
  obtain ⟨T159, h159, X159, e159, W159, st159⟩ := stZ X138 hx hZ e138 Ar158 (j := (2 : Int32)) hin158 (g := (mkF m 23 #[.val (.int p1), .val (.int k), .unset, .unset] [(.int (0 : Int32)), (.int (2 : Int32)), (.ref b), (.ref b)])) rfl rfl (hb hby at_23)
  have S_M_160 := S_M_139.wr W159
  have E_M_161 := E_M_140.wr W159
  have S_A_162 := S_A_141.wr W159
  have E_A_163 := E_A_142.wr W159
  have S_H_164 := S_H_143.wr W159
  have E_H_165 := E_H_144.wr W159
  have S_R_166 := S_R_145.wr W159
  have E_R_167 := E_R_146.wr W159
  have S_T_168 := S_T_147.wr W159
  have E_T_169 := E_T_148.wr W159
  have S_B_170 := S_B_149.wr W159
  have E_B_171 := E_B_150.wr W159
  have V_b_159 : Arv Z h159 b k_b .boolean (6 : Int32) [(.int (0 : Int32)), (.int (0 : Int32)), (.int (0 : Int32)), (.int (0 : Int32)), (.int (0 : Int32)), (.int (0 : Int32))] (.int (0 : Int32)) := Arv.set Ar158 qk158 Sz158 Ng158 Hs158 Gs158 (fits_nar_bool _) W159 2 rfl (Nat.le_of_ble_eq_true rfl)
  have N159 := Fr.snoc X159 N138 g_b
  have Z178 : n0 ≤ h159.size := Nat.le_trans Z157 ((Keep.of_wr W159).1)
  obtain ⟨cl179, Ar179, qk179, Sz179, Ng179, Hs179, Gs179⟩ := V_b_159
  have hin179 : ¬ ((3 : Int32) < 0 ∨ cl179.slots.size ≤ ((3 : Int32)).toNatClampNeg) := inb_of Sz179 ⟨by decide, by decide⟩
  obtain ⟨T180, h180, X180, e180, W180, st180⟩ := stZ X159 hx hZ e159 Ar179 (j := (3 : Int32)) hin179 (g := (mkF m 27 #[.val (.int p1), .val (.int k), .unset, .unset] [(.int (0 : Int32)), (.int (3 : Int32)), (.ref b), (.ref b)])) rfl rfl (hb hby at_27)
  have S_M_181 := S_M_160.wr W180
  have E_M_182 := E_M_161.wr W180
  have S_A_183 := S_A_162.wr W180
  have E_A_184 := E_A_163.wr W180
  have S_H_185 := S_H_164.wr W180
  have E_H_186 := E_H_165.wr W180
  have S_R_187 := S_R_166.wr W180
  have E_R_188 := E_R_167.wr W180
  have S_T_189 := S_T_168.wr W180
  have E_T_190 := E_T_169.wr W180
  have S_B_191 := S_B_170.wr W180
  have E_B_192 := E_B_171.wr W180
  have V_b_180 : Arv Z h180 b k_b .boolean (6 : Int32) [(.int (0 : Int32)), (.int (0 : Int32)), (.int (0 : Int32)), (.int (0 : Int32)), (.int (0 : Int32)), (.int (0 : Int32))] (.int (0 : Int32)) := Arv.set Ar179 qk179 Sz179 Ng179 Hs179 Gs179 (fits_nar_bool _) W180 3 rfl (Nat.le_of_ble_eq_true rfl)
  have N180 := Fr.snoc X180 N159 g_b
  have Z199 : n0 ≤ h180.size := Nat.le_trans Z178 ((Keep.of_wr W180).1)
  obtain ⟨cl200, Ar200, qk200, Sz200, Ng200, Hs200, Gs200⟩ := V_b_180
  have hin200 : ¬ ((4 : Int32) < 0 ∨ cl200.slots.size ≤ ((4 : Int32)).toNatClampNeg) := inb_of Sz200 ⟨by decide, by decide⟩
  obtain ⟨T201, h201, X201, e201, W201, st201⟩ := stZ X180 hx hZ e180 Ar200 (j := (4 : Int32)) hin200 (g := (mkF m 31 #[.val (.int p1), .val (.int k), .unset, .unset] [(.int (1 : Int32)), (.int (4 : Int32)), (.ref b), (.ref b)])) rfl rfl (hb hby at_31)
  have S_M_202 := S_M_181.wr W201
  have E_M_203 := E_M_182.wr W201
  have S_A_204 := S_A_183.wr W201
  have E_A_205 := E_A_184.wr W201
  have S_H_206 := S_H_185.wr W201
  have E_H_207 := E_H_186.wr W201
  have S_R_208 := S_R_187.wr W201
  have E_R_209 := E_R_188.wr W201
  have S_T_210 := S_T_189.wr W201
  have E_T_211 := E_T_190.wr W201
  have S_B_212 := S_B_191.wr W201
  have E_B_213 := E_B_192.wr W201
  have V_b_201 : Arv Z h201 b k_b .boolean (6 : Int32) [(.int (0 : Int32)), (.int (0 : Int32)), (.int (0 : Int32)), (.int (0 : Int32)), (.int (1 : Int32)), (.int (0 : Int32))] (.int (0 : Int32)) := Arv.set Ar200 qk200 Sz200 Ng200 Hs200 Gs200 (fits_nar_bool _) W201 4 rfl (Nat.le_of_ble_eq_true rfl)
  have N201 := Fr.snoc X201 N180 g_b
  have Z220 : n0 ≤ h201.size := Nat.le_trans Z199 ((Keep.of_wr W201).1)
  obtain ⟨cl221, Ar221, qk221, Sz221, Ng221, Hs221, Gs221⟩ := V_b_201
  have hin221 : ¬ ((5 : Int32) < 0 ∨ cl221.slots.size ≤ ((5 : Int32)).toNatClampNeg) := inb_of Sz221 ⟨by decide, by decide⟩
  obtain ⟨T222, h222, X222, e222, W222, st222⟩ := stZ X201 hx hZ e201 Ar221 (j := (5 : Int32)) hin221 (g := (mkF m 35 #[.val (.int p1), .val (.int k), .unset, .unset] [(.int (1 : Int32)), (.int (5 : Int32)), (.ref b), (.ref b)])) rfl rfl (hb hby at_35)
  have S_M_223 := S_M_202.wr W222
  have E_M_224 := E_M_203.wr W222
  have S_A_225 := S_A_204.wr W222
  have E_A_226 := E_A_205.wr W222
  have S_H_227 := S_H_206.wr W222
  have E_H_228 := E_H_207.wr W222
  have S_R_229 := S_R_208.wr W222
  have E_R_230 := E_R_209.wr W222
  have S_T_231 := S_T_210.wr W222
  have E_T_232 := E_T_211.wr W222
  have S_B_233 := S_B_212.wr W222
  have E_B_234 := E_B_213.wr W222
  have V_b_222 : Arv Z h222 b k_b .boolean (6 : Int32) [(.int (0 : Int32)), (.int (0 : Int32)), (.int (0 : Int32)), (.int (0 : Int32)), (.int (1 : Int32)), (.int (1 : Int32))] (.int (0 : Int32)) := Arv.set Ar221 qk221 Sz221 Ng221 Hs221 Gs221 (fits_nar_bool _) W222 5 rfl (Nat.le_of_ble_eq_true rfl)
  have N222 := Fr.snoc X222 N201 g_b
  have Z241 : n0 ≤ h222.size := Nat.le_trans Z220 ((Keep.of_wr W222).1)
  obtain ⟨_, _, ⟨T242, L242, k242, n242⟩, -, X242, ⟨Lc242, hQ242, l242, y242, z242⟩, st242⟩ := Jvm.LawKit.callS X222 hx (y := (⟨"com/example/muster/muster/KindProducesUnitPinLaw", "kindOf", "(I)Lcom/example/muster/muster/Order$Kind;"⟩ : MethodName)) hown (mvT hZ (hw _ (List.mem_of_getElem? (i := 2) rfl))) (mvT hZ (hw _ (List.mem_of_getElem? (i := 3) rfl))) (mvT hZ (hw _ (List.mem_of_getElem? (i := 4) rfl))) (mvT hZ (hw _ (List.mem_of_getElem? (i := 5) rfl))) (by decide) (backOf (W := 0) (rm1 l Z a0 hw [] k aM aA aH aR aT aB h222 n0 Z241 S_M_223 S_A_225 S_H_227 S_R_229 S_T_231 S_B_233) hZ (hw _ (List.mem_of_getElem? (i := 5) rfl)) (hw _ (List.mem_of_getElem? (i := 4) rfl)) (by decide) (by decide)) (g := (mkF m 38 #[.val (.int p1), .val (.int k), .val (.ref b), .unset] [(.int k)])) rfl (by rw [hml]; rfl) (argsL := [(.int k)]) (rest := []) (lenOf pd_0 rfl) rfl (by show 2 * 0 + _ ≤ _; exact Nat.le_of_eq rfl) (hb hby at_38) (fun _ _ => ⟨rfl, e222, (by decide : 1 + 0 ≤ _), (by decide : 6 + 0 ≤ _)⟩)
  dsimp only [Pt.U, Pt.locs, Pt.cells, Pt.slots] at X242 l242 y242 z242 st242 hQ242
  subst l242 y242 z242
  obtain ⟨rfl, N242q, e242⟩ := hQ242
  have N242 := Fr.app N222 N242q
  have E_kd : Exa Z h222 (own_kind k aM aA aH aR aT aB) "com/example/muster/muster/Order$Kind" := own_exk E_M_224 E_A_226 E_H_228 E_R_230 E_T_232 E_B_234
  obtain ⟨cq243, kq243, q243a, q243b, q243c⟩ := isOf hZ e242 E_kd
  obtain ⟨_, _, ⟨T243, L243, k243, n243⟩, -, X243, ⟨Lc243, hQ243, l243, y243, z243⟩, st243⟩ := X242.virtualBack hx (y := (⟨"com/example/muster/muster/Order$Kind", "producesUnit", "()Z"⟩ : MethodName)) (z := (⟨"com/example/muster/muster/Order$Kind", "producesUnit", "()Z"⟩ : MethodName)) hown (mvT hZ (hw _ (List.mem_of_getElem? (i := 9) rfl))) (mvT hZ (hw _ (List.mem_of_getElem? (i := 10) rfl))) (notFace_of_selects (args := #[]) (mvT hZ (hw _ (List.mem_of_getElem? (i := 12) rfl)))) (mvT hZ (hw _ (List.mem_of_getElem? (i := 12) rfl))) (mvT hZ (hw _ (List.mem_of_getElem? (i := 11) rfl))) (by decide) (backOf (W := 0) (rm2 l Z a0 hw [] (own_kind k aM aA aH aR aT aB) aT aB h222 n0 Z241 S_T_231 S_B_233) hZ (hw _ (List.mem_of_getElem? (i := 13) rfl)) (hw _ (List.mem_of_getElem? (i := 7) rfl)) (by decide) (by decide)) q243a q243c (g := (mkF m 43 #[.val (.int p1), .val (.int k), .val (.ref b), .val (.ref (own_kind k aM aA aH aR aT aB))] [(.ref (own_kind k aM aA aH aR aT aB))])) rfl (by rw [hml]; rfl) (Steps.refl _) (argsL := []) (rest := []) (lenOf pd_1 rfl) rfl (by show 2 * 0 + _ ≤ _; exact Nat.le_of_eq rfl) (hb hby at_43) (fun _ _ => ⟨rfl, e242, (by decide : 1 + 0 ≤ _), (by decide : 6 + 0 ≤ _)⟩)
  dsimp only [Pt.U, Pt.locs, Pt.cells, Pt.slots] at X243 l243 y243 z243 st243 hQ243
  subst l243 y243 z243
  obtain ⟨rfl, N243q, e243⟩ := hQ243
  have N243 := Fr.app N242 N243q
  obtain ⟨cl, Ar, -, Sz, Ng, Hs, -⟩ := V_b_222
  have hin : ¬ (k < 0 ∨ cl.slots.size ≤ k.toNatClampNeg) := inb_of Sz (own_in6 hk)
  have hat : cl.slots[k.toNatClampNeg]? = some (.int (own_tab k)) := Has.at Hs hin (own_tabat hk)
  have pre244 : ∀ t_, Steps p.tables e below (T243.setTop (mkF m 57 #[.val (.int p1), .val (.int k), .val (.ref b), .val (.ref (own_kind k aM aA aH aR aT aB))] [(.int (1 : Int32))])) t_ → Steps p.tables e below (s₁.setTop (entryFrame m #[(.int p1)] maxLocals)) t_ := fun t_ k_ => pre101 _ (by
    show Steps p.tables e below (s₁.setTop (mkF m 8 #[.val (.int p1), .val (.int k), .unset, .unset] [])) _
    refine XS.bipush X0.here hx rfl (hb hby at_8) ?_
    show Steps p.tables e below (s₁.setTop (mkF m 10 #[.val (.int p1), .val (.int k), .unset, .unset] [(.int (6 : Int32))])) _
    refine st102 _ ?_
    show Steps p.tables e below (T102.setTop (mkF m 12 #[.val (.int p1), .val (.int k), .unset, .unset] [(.ref b)])) _
    refine XS.dup X102.here hx rfl (hb hby at_12) rfl rfl ?_
    show Steps p.tables e below (T102.setTop (mkF m 13 #[.val (.int p1), .val (.int k), .unset, .unset] [(.ref b), (.ref b)])) _
    refine XS.iconst X102.here hx rfl (hb hby at_13) ?_
    show Steps p.tables e below (T102.setTop (mkF m 14 #[.val (.int p1), .val (.int k), .unset, .unset] [(.int (0 : Int32)), (.ref b), (.ref b)])) _
    refine XS.iconst X102.here hx rfl (hb hby at_14) ?_
    show Steps p.tables e below (T102.setTop (mkF m 15 #[.val (.int p1), .val (.int k), .unset, .unset] [(.int (0 : Int32)), (.int (0 : Int32)), (.ref b), (.ref b)])) _
    refine st117 _ ?_
    show Steps p.tables e below (T117.setTop (mkF m 16 #[.val (.int p1), .val (.int k), .unset, .unset] [(.ref b)])) _
    refine XS.dup X117.here hx rfl (hb hby at_16) rfl rfl ?_
    show Steps p.tables e below (T117.setTop (mkF m 17 #[.val (.int p1), .val (.int k), .unset, .unset] [(.ref b), (.ref b)])) _
    refine XS.iconst X117.here hx rfl (hb hby at_17) ?_
    show Steps p.tables e below (T117.setTop (mkF m 18 #[.val (.int p1), .val (.int k), .unset, .unset] [(.int (1 : Int32)), (.ref b), (.ref b)])) _
    refine XS.iconst X117.here hx rfl (hb hby at_18) ?_
    show Steps p.tables e below (T117.setTop (mkF m 19 #[.val (.int p1), .val (.int k), .unset, .unset] [(.int (0 : Int32)), (.int (1 : Int32)), (.ref b), (.ref b)])) _
    refine st138 _ ?_
    show Steps p.tables e below (T138.setTop (mkF m 20 #[.val (.int p1), .val (.int k), .unset, .unset] [(.ref b)])) _
    refine XS.dup X138.here hx rfl (hb hby at_20) rfl rfl ?_
    show Steps p.tables e below (T138.setTop (mkF m 21 #[.val (.int p1), .val (.int k), .unset, .unset] [(.ref b), (.ref b)])) _
    refine XS.iconst X138.here hx rfl (hb hby at_21) ?_
    show Steps p.tables e below (T138.setTop (mkF m 22 #[.val (.int p1), .val (.int k), .unset, .unset] [(.int (2 : Int32)), (.ref b), (.ref b)])) _
    refine XS.iconst X138.here hx rfl (hb hby at_22) ?_
    show Steps p.tables e below (T138.setTop (mkF m 23 #[.val (.int p1), .val (.int k), .unset, .unset] [(.int (0 : Int32)), (.int (2 : Int32)), (.ref b), (.ref b)])) _
    refine st159 _ ?_
    show Steps p.tables e below (T159.setTop (mkF m 24 #[.val (.int p1), .val (.int k), .unset, .unset] [(.ref b)])) _
    refine XS.dup X159.here hx rfl (hb hby at_24) rfl rfl ?_
    show Steps p.tables e below (T159.setTop (mkF m 25 #[.val (.int p1), .val (.int k), .unset, .unset] [(.ref b), (.ref b)])) _
    refine XS.iconst X159.here hx rfl (hb hby at_25) ?_
    show Steps p.tables e below (T159.setTop (mkF m 26 #[.val (.int p1), .val (.int k), .unset, .unset] [(.int (3 : Int32)), (.ref b), (.ref b)])) _
    refine XS.iconst X159.here hx rfl (hb hby at_26) ?_
    show Steps p.tables e below (T159.setTop (mkF m 27 #[.val (.int p1), .val (.int k), .unset, .unset] [(.int (0 : Int32)), (.int (3 : Int32)), (.ref b), (.ref b)])) _
    refine st180 _ ?_
    show Steps p.tables e below (T180.setTop (mkF m 28 #[.val (.int p1), .val (.int k), .unset, .unset] [(.ref b)])) _
    refine XS.dup X180.here hx rfl (hb hby at_28) rfl rfl ?_
    show Steps p.tables e below (T180.setTop (mkF m 29 #[.val (.int p1), .val (.int k), .unset, .unset] [(.ref b), (.ref b)])) _
    refine XS.iconst X180.here hx rfl (hb hby at_29) ?_
    show Steps p.tables e below (T180.setTop (mkF m 30 #[.val (.int p1), .val (.int k), .unset, .unset] [(.int (4 : Int32)), (.ref b), (.ref b)])) _
    refine XS.iconst X180.here hx rfl (hb hby at_30) ?_
    show Steps p.tables e below (T180.setTop (mkF m 31 #[.val (.int p1), .val (.int k), .unset, .unset] [(.int (1 : Int32)), (.int (4 : Int32)), (.ref b), (.ref b)])) _
    refine st201 _ ?_
    show Steps p.tables e below (T201.setTop (mkF m 32 #[.val (.int p1), .val (.int k), .unset, .unset] [(.ref b)])) _
    refine XS.dup X201.here hx rfl (hb hby at_32) rfl rfl ?_
    show Steps p.tables e below (T201.setTop (mkF m 33 #[.val (.int p1), .val (.int k), .unset, .unset] [(.ref b), (.ref b)])) _
    refine XS.iconst X201.here hx rfl (hb hby at_33) ?_
    show Steps p.tables e below (T201.setTop (mkF m 34 #[.val (.int p1), .val (.int k), .unset, .unset] [(.int (5 : Int32)), (.ref b), (.ref b)])) _
    refine XS.iconst X201.here hx rfl (hb hby at_34) ?_
    show Steps p.tables e below (T201.setTop (mkF m 35 #[.val (.int p1), .val (.int k), .unset, .unset] [(.int (1 : Int32)), (.int (5 : Int32)), (.ref b), (.ref b)])) _
    refine st222 _ ?_
    show Steps p.tables e below (T222.setTop (mkF m 36 #[.val (.int p1), .val (.int k), .unset, .unset] [(.ref b)])) _
    refine XS.astoreN X222.here hx rfl (hb hby at_36) rfl rfl (l' := #[.val (.int p1), .val (.int k), .val (.ref b), .unset]) rfl ?_
    show Steps p.tables e below (T222.setTop (mkF m 37 #[.val (.int p1), .val (.int k), .val (.ref b), .unset] [])) _
    refine XS.iloadN X222.here hx rfl (hb hby at_37) rfl ?_
    show Steps p.tables e below (T222.setTop (mkF m 38 #[.val (.int p1), .val (.int k), .val (.ref b), .unset] [(.int k)])) _
    refine st242 _ ?_
    show Steps p.tables e below (T242.setTop (mkF m 41 #[.val (.int p1), .val (.int k), .val (.ref b), .unset] [(.ref (own_kind k aM aA aH aR aT aB))])) _
    refine XS.astoreN X242.here hx rfl (hb hby at_41) rfl rfl (l' := #[.val (.int p1), .val (.int k), .val (.ref b), .val (.ref (own_kind k aM aA aH aR aT aB))]) rfl ?_
    show Steps p.tables e below (T242.setTop (mkF m 42 #[.val (.int p1), .val (.int k), .val (.ref b), .val (.ref (own_kind k aM aA aH aR aT aB))] [])) _
    refine XS.aloadN X242.here hx rfl (hb hby at_42) rfl rfl ?_
    show Steps p.tables e below (T242.setTop (mkF m 43 #[.val (.int p1), .val (.int k), .val (.ref b), .val (.ref (own_kind k aM aA aH aR aT aB))] [(.ref (own_kind k aM aA aH aR aT aB))])) _
    refine st243.trans ?_
    show Steps p.tables e below (T243.setTop (mkF m 46 #[.val (.int p1), .val (.int k), .val (.ref b), .val (.ref (own_kind k aM aA aH aR aT aB))] [(.int (own_prod (own_kind k aM aA aH aR aT aB) aT aB))])) _
    refine XS.aloadN X243.here hx rfl (hb hby at_46) rfl rfl ?_
    show Steps p.tables e below (T243.setTop (mkF m 47 #[.val (.int p1), .val (.int k), .val (.ref b), .val (.ref (own_kind k aM aA aH aR aT aB))] [(.ref b), (.int (own_prod (own_kind k aM aA aH aR aT aB) aT aB))])) _
    refine XS.iloadN X243.here hx rfl (hb hby at_47) rfl ?_
    show Steps p.tables e below (T243.setTop (mkF m 48 #[.val (.int p1), .val (.int k), .val (.ref b), .val (.ref (own_kind k aM aA aH aR aT aB))] [(.int k), (.ref b), (.int (own_prod (own_kind k aM aA aH aR aT aB) aT aB))])) _
    refine X243.baloadBooleans hx (j := k) (v := (.int (own_tab k))) (by rw [e243]; exact Ar.1) (State.isArrayOf_alike hZ.alike Ar.2.1) Ar.2.2 hin hat (g := (mkF m 48 #[.val (.int p1), .val (.int k), .val (.ref b), .val (.ref (own_kind k aM aA aH aR aT aB))] [(.int k), (.ref b), (.int (own_prod (own_kind k aM aA aH aR aT aB) aT aB))])) rfl rfl (hb hby at_48) _ ?_
    show Steps p.tables e below (T243.setTop (mkF m 49 #[.val (.int p1), .val (.int k), .val (.ref b), .val (.ref (own_kind k aM aA aH aR aT aB))] [(.int (own_tab k)), (.int (own_prod (own_kind k aM aA aH aR aT aB) aT aB))])) _
    refine XS.icmpNo X243.here hx rfl (hb hby at_49) rfl (teq (own_same hk n1 n2 n3 n4 m1 m2 m3 m4)).2 ?_
    show Steps p.tables e below (T243.setTop (mkF m 52 #[.val (.int p1), .val (.int k), .val (.ref b), .val (.ref (own_kind k aM aA aH aR aT aB))] [])) _
    refine XS.iconst X243.here hx rfl (hb hby at_52) ?_
    show Steps p.tables e below (T243.setTop (mkF m 53 #[.val (.int p1), .val (.int k), .val (.ref b), .val (.ref (own_kind k aM aA aH aR aT aB))] [(.int (1 : Int32))])) _
    refine XS.goto X243.here hx rfl (pc0 := 53) (pc' := 57) rfl (hb hby at_53) (by decide) (by decide) ?_
    exact k_)
  obtain ⟨fs, hr, hrun, hended, hW, hsame⟩ := X243.leave (v := some (.int (1 : Int32))) (fun h => by rw [Bd.returns] at h; cases h)
  refine ⟨_, _, pre244 _ ?_, hrun, hended, _, _, rfl, ?_, ⟨_, rfl⟩, hW, hsame.mono (by decide) (by decide)⟩
  · show Steps p.tables e below (T243.setTop (mkF m 57 #[.val (.int p1), .val (.int k), .val (.ref b), .val (.ref (own_kind k aM aA aH aR aT aB))] [(.int (1 : Int32))])) _
    exact retN X243 hx (t := .boolean) Bd.returns (by simp) (hb hby at_57) hr
  · show Qrm0 Z p1 aM aA aH aR aT aB h0 n0 _ T243.heap _
    rw [e243]
    exact ⟨rfl, N243⟩
set_option maxRecDepth 65536 in
set_option maxHeartbeats 40000000 in
theorem comes_1 {Post : Tables → Env → Array Value → State → Outcome → State → Prop} (hpost : ∀ tb e args s v u, (limb_1_1.after args s (.returned v) u = true ∧ limb_1_2.after args s (.returned v) u = true ∧ True) → FrameEnd s (.returned v) u (Jvm.fieldLocs frame_1_writes args s ++ Jvm.arrayLocs frame_1_arrays args s ++ Jvm.staticLocs frame_1_statics s) 16 128 → Post tb e args s (.returned v) u) :
    ArmFor flags0 classFile x code maxLocals ret World_1 tables_1 room_1 Calls_1 rest_1 Pre_1 Post := by
  intro l hfl _ _ p e ha hc hk s m args below hf hA hF happ hP
  obtain ⟨hcalls, hrest, hpre⟩ := hP
  obtain ⟨-, -, -, hnamed, -, -, -, hat⟩ := (Spec.applies_iff hf).mp happ
  obtain ⟨hg, hn⟩ := and_e (Cond.before_iff.mp (show (Jvm.Cond.and given_1 narrow_1).before args s = true from hpre))
  obtain ⟨gg1, gg2⟩ := and_e hg
  obtain ⟨w0, rfl⟩ : ∃ w0 : Value, args = #[w0] := by
    have hs : args.size = 1 := by simpa [Cond.value, given_1] using gg1
    obtain ⟨L⟩ := args
    match L, hs with
    | [w0], _ => exact ⟨w0, rfl⟩
  have hw := fun d (hd : d ∈ tables_1) => atoms_spec (ws := Jvm.Cond.code x code maxLocals ret :: tables_1) hat d (List.mem_cons_of_mem _ hd)
  have hfit : Fit s := fun {y c} hc i hi => by
    obtain ⟨ha, rfl⟩ := Array.getElem?_eq_some_iff.mp hc
    have q := List.all_eq_true.mp ((Array.all_eq_true_iff_forall_mem.mp hF) _ (Array.getElem_mem ha)) i (List.mem_range.mpr hi)
    simpa [Array.getElem?_eq_getElem hi] using q
  obtain ⟨i0, ei0⟩ := is_v gg2
  obtain rfl : w0 = (.int i0) := Option.some.inj ei0
  obtain ⟨nn1, nn2⟩ := and_e hn
  obtain ⟨nn3, nn4⟩ := and_e nn2
  obtain ⟨nn5, nn6⟩ := and_e nn4
  obtain ⟨nn7, nn8⟩ := and_e nn6
  obtain ⟨nn9, nn10⟩ := and_e nn8
  obtain ⟨nn11, nn12⟩ := and_e nn10
  obtain ⟨nn13, nn14⟩ := and_e nn12
  obtain ⟨nn15, nn16⟩ := and_e nn14
  obtain ⟨nn17, nn18⟩ := and_e nn16
  obtain ⟨nn19, nn20⟩ := and_e nn18
  obtain ⟨nn21, nn22⟩ := and_e nn20
  obtain ⟨aM, evM, E_M, S_M⟩ := own_static nn1 (hw _ (List.mem_of_getElem? (i := 7) rfl)) (hw _ (List.mem_of_getElem? (i := 8) rfl))
  obtain ⟨aT, evT, E_T, S_T⟩ := own_static nn3 (hw _ (List.mem_of_getElem? (i := 7) rfl)) (hw _ (List.mem_of_getElem? (i := 15) rfl))
  obtain ⟨aB, evB, E_B, S_B⟩ := own_static nn9 (hw _ (List.mem_of_getElem? (i := 7) rfl)) (hw _ (List.mem_of_getElem? (i := 17) rfl))
  obtain ⟨aR, evR, E_R, S_R⟩ := own_static nn13 (hw _ (List.mem_of_getElem? (i := 7) rfl)) (hw _ (List.mem_of_getElem? (i := 19) rfl))
  obtain ⟨aH, evH, E_H, S_H⟩ := own_static nn17 (hw _ (List.mem_of_getElem? (i := 7) rfl)) (hw _ (List.mem_of_getElem? (i := 21) rfl))
  obtain ⟨aA, evA, E_A, S_A⟩ := own_static nn21 (hw _ (List.mem_of_getElem? (i := 7) rfl)) (hw _ (List.mem_of_getElem? (i := 23) rfl))
  have F_M := own_ord evM nn5
  have F_T := own_ord evT nn7
  have F_B := own_ord evB nn11
  have F_R := own_ord evR nn15
  have F_H := own_ord evH nn19
  have F_A := own_ord evA nn22
  obtain ⟨n, o, h1, h2, h3, _, L, rfl, ⟨rfl, N⟩, hq⟩ := rm0 l s _ hw tables_1 i0 aM aA aH aR aT aB s.heap s.heap.size (Nat.le_refl _) S_M S_A S_H S_R S_T S_B E_M E_A E_H E_R E_T E_B (F_M.ne F_T (own_vne (by decide))) (F_A.ne F_T (own_vne (by decide))) (F_H.ne F_T (own_vne (by decide))) (F_R.ne F_T (own_vne (by decide))) (F_M.ne F_B (own_vne (by decide))) (F_A.ne F_B (own_vne (by decide))) (F_H.ne F_B (own_vne (by decide))) (F_R.ne F_B (own_vne (by decide))) p e ha hc hk s m _ below hf ((Spec.applies_iff_loose hf).mp happ).1 ⟨rfl, State.Warmed39.refl s, rfl⟩ trivial
  refine ⟨n, _, h1, h2, h3, hpost _ _ _ _ _ _ ⟨Cond.after_iff.mpr rfl, Cond.after_iff.mpr (eq_i res_at (Term.int_eval (1)) rfl), trivial⟩ ⟨hq.1, hq.2.1, (hq.2.2.sift fun y hy => Or.inr (N y hy)).mono (by decide) (by decide)⟩⟩
theorem main_1_1 : Claimed_1_1 := comes_1 fun _ _ _ _ _ _ h hF => ⟨h.1, hF⟩
theorem main_1_2 : Claimed_1_2 := comes_1 fun _ _ _ _ _ _ h hF => ⟨h.2.1, hF⟩
end Jvm.Pilot.@@N@@
namespace Jvm.Pilot.@@N@@
open Jvm Jvm.ClassFile Sem Op Lib Jvm.Free Jvm.Stand Jvm.Pilot.@@N@@.Jvm.D
/-! MADE BY PROGRAM (witnessworld.py) out of the Statement's table words and the real class files: 14 classes; the members and pool entries that the words name. The judged class is class 1, her method 2. -/
namespace start1
open Jvm.ClassFile
def u (s : String) : CpInfo := .utf8 (stringToUtf16 s)
/-- a pool by its gaps: so many unusable entries, then the entry; so many at the end -/
def gap : Nat → List CpInfo → List CpInfo
  | 0, r => r
  | n + 1, r => .unusable :: gap n r
def poolList (es : List (Nat × CpInfo)) (last : Nat) : List CpInfo := es.foldr (fun e r => gap e.1 (e.2 :: r)) (gap last [])
def pool (es : List (Nat × CpInfo)) (last : Nat) : Array CpInfo := ⟨poolList es last⟩
def fileOf (pool : Array CpInfo) (this : Nat) (attrs : Array Attribute := #[]) (ms : Array MethodInfo := #[]) (fl : Nat := 33) (sup : Nat := 0) (ifs : Array Nat := #[]) (fds : Array FieldInfo := #[]) : ClassFile where
  minorVersion := 0
  majorVersion := 65
  constantPool := pool
  accessFlags := fl
  thisClass := this
  superClass := sup
  interfaces := ifs
  fields := fds
  methods := ms
  attributes := attrs
def plain (name : String) (sup : Option ClassId) : Class where
  name := name
  kind := .ordinary
  loader := none
  accessFlags := 33
  super := sup
  interfaces := #[]
  cf := none
  fields := #[]
  methods := #[]
  instanceTypes := #[]
  staticTypes := #[]
  resolved := #[]
  callSites := []
  init := .initialized
  statics := none
  mirror := none

def pool0 : Array CpInfo := pool [(5, u "<init>"), (0, u "()V"), (1, .class_ 10), (1, u "java/lang/Object")] 113

def k0m0 : Method := { name := "<init>", desc := "()V", sig := { parameters := [], returnType := none }, accessFlags := 1, code := none }
/-- java/lang/Object -/
def k0 : Class := { plain "java/lang/Object" none with
  accessFlags := 33
  interfaces := #[]
  cf := some (fileOf pool0 8 #[] #[{ accessFlags := 1, nameIndex := 5, descriptorIndex := 6, attributes := #[] }] 33 0 #[] #[])
  fields := #[]
  methods := #[k0m0]
  instanceTypes := #[]
  staticTypes := #[]
  resolved := Array.replicate 124 none
  statics := none }

def pool1 : Array CpInfo := pool [(2, .class_ 4), (1, u "java/lang/Object"), (0, u "<init>"), (0, u "()V"), (0, .fieldref 8 9), (0, .class_ 10), (0, .nameAndType 11 12), (0, u "com/example/muster/muster/Order$Kind"), (0, u "MOVE"), (0, u "Lcom/example/muster/muster/Order$Kind;"), (0, .fieldref 8 14), (0, .nameAndType 15 12), (0, u "ATTACK"), (0, .fieldref 8 17), (0, .nameAndType 18 12), (0, u "HARVEST"), (0, .fieldref 8 20), (0, .nameAndType 21 12), (0, u "RETURN"), (0, .fieldref 8 23), (0, .nameAndType 24 12), (0, u "TRAIN"), (0, .fieldref 8 26), (0, .nameAndType 27 12), (0, u "BUILD"), (0, .integer 2147483647), (0, .methodref 30 31), (0, .class_ 32), (0, .nameAndType 33 34), (0, u "com/example/muster/muster/KindProducesUnitPinLaw"), (0, u "kindOf"), (0, u "(I)Lcom/example/muster/muster/Order$Kind;"), (0, .methodref 8 36), (0, .nameAndType 37 38), (0, u "producesUnit"), (0, u "()Z"), (3, u "law"), (0, u "(I)Z")] 8

def k1m0 : Method := { name := "<init>", desc := "()V", sig := { parameters := [], returnType := none }, accessFlags := 1, code := none }
def k1c1 : Code := { maxStack := 2, maxLocals := 1, code := method_2_code, exceptionTable := #[], attributes := #[] }
def k1m1 : Method := { name := "kindOf", desc := "(I)Lcom/example/muster/muster/Order$Kind;", sig := { parameters := [.int], returnType := some (.object "com/example/muster/muster/Order$Kind") }, accessFlags := 10, code := some k1c1 }
def k1c2 : Code := { maxStack := 4, maxLocals := 4, code := code, exceptionTable := #[], attributes := #[] }
def k1m2 : Method := { name := "law", desc := "(I)Z", sig := { parameters := [.int], returnType := some .boolean }, accessFlags := 9, code := some k1c2 }
/-- com/example/muster/muster/KindProducesUnitPinLaw -/
def k1 : Class := { plain "com/example/muster/muster/KindProducesUnitPinLaw" (some 0) with
  accessFlags := 49
  interfaces := #[]
  cf := some (fileOf pool1 30 #[] #[{ accessFlags := 1, nameIndex := 5, descriptorIndex := 6, attributes := #[] }, { accessFlags := 10, nameIndex := 33, descriptorIndex := 34, attributes := #[] }, { accessFlags := 9, nameIndex := 42, descriptorIndex := 43, attributes := #[] }] 49 2 #[] #[])
  fields := #[]
  methods := #[k1m0, k1m1, k1m2]
  instanceTypes := #[]
  staticTypes := #[]
  resolved := Array.replicate 52 none
  statics := none }

def pool2 : Array CpInfo := pool [(1, .class_ 2), (0, u "java/lang/constant/Constable"), (0, .class_ 4), (0, u "java/lang/Object")] 6

/-- java/lang/constant/Constable -/
def k2 : Class := { plain "java/lang/constant/Constable" (some 0) with
  accessFlags := 1537
  interfaces := #[]
  cf := some (fileOf pool2 1 #[] #[] 1537 3 #[] #[])
  fields := #[]
  methods := #[]
  instanceTypes := #[]
  staticTypes := #[]
  resolved := Array.replicate 11 none
  statics := none }

def pool3 : Array CpInfo := pool [(1, .class_ 2), (0, u "java/lang/Comparable"), (0, .class_ 4), (0, u "java/lang/Object")] 7

/-- java/lang/Comparable -/
def k3 : Class := { plain "java/lang/Comparable" (some 0) with
  accessFlags := 1537
  interfaces := #[]
  cf := some (fileOf pool3 1 #[] #[] 1537 3 #[] #[])
  fields := #[]
  methods := #[]
  instanceTypes := #[]
  staticTypes := #[]
  resolved := Array.replicate 12 none
  statics := none }

def pool4 : Array CpInfo := pool [(1, .class_ 2), (0, u "java/io/Serializable"), (0, .class_ 4), (0, u "java/lang/Object")] 2

/-- java/io/Serializable -/
def k4 : Class := { plain "java/io/Serializable" (some 0) with
  accessFlags := 1537
  interfaces := #[]
  cf := some (fileOf pool4 1 #[] #[] 1537 3 #[] #[])
  fields := #[]
  methods := #[]
  instanceTypes := #[]
  staticTypes := #[]
  resolved := Array.replicate 7 none
  statics := none }

def pool5 : Array CpInfo := pool [(2, .class_ 4), (1, u "java/lang/Enum"), (0, u "name"), (0, u "Ljava/lang/String;"), (2, u "ordinal"), (0, u "I"), (1, .class_ 14), (1, u "java/lang/Object"), (4, u "hash"), (86, .class_ 108), (1, u "java/lang/Enum$EnumDesc"), (2, .class_ 112), (0, u "java/lang/constant/Constable"), (0, .class_ 114), (0, u "java/lang/Comparable"), (0, .class_ 116), (0, u "java/io/Serializable")] 87

/-- java/lang/Enum -/
def k5 : Class := { plain "java/lang/Enum" (some 0) with
  accessFlags := 1057
  interfaces := #[2, 3, 4]
  cf := some (fileOf pool5 2 #[.nestMembers #[106]] #[] 1057 12 #[111, 113, 115] #[{ accessFlags := 18, nameIndex := 5, descriptorIndex := 6, attributes := #[] }, { accessFlags := 18, nameIndex := 9, descriptorIndex := 10, attributes := #[] }, { accessFlags := 2, nameIndex := 19, descriptorIndex := 10, attributes := #[] }])
  fields := #[{ name := "name", type := (.object "java/lang/String"), accessFlags := 18, slot := 0, constantValue := 0 }, { name := "ordinal", type := .int, accessFlags := 18, slot := 1, constantValue := 0 }, { name := "hash", type := .int, accessFlags := 2, slot := 2, constantValue := 0 }]
  methods := #[]
  instanceTypes := #[(.object "java/lang/String"), .int, .int]
  staticTypes := #[]
  resolved := Array.replicate 204 none
  statics := none }

def pool6 : Array CpInfo := pool [(1, .class_ 2), (0, u "com/example/muster/muster/Order$Kind"), (2, u "MOVE"), (0, u "Lcom/example/muster/muster/Order$Kind;"), (2, u "ATTACK"), (2, u "HARVEST"), (2, u "RETURN"), (0, .fieldref 1 17), (0, .nameAndType 18 6), (0, u "TRAIN"), (0, .fieldref 1 20), (0, .nameAndType 21 6), (0, u "BUILD"), (2, u "$VALUES"), (0, u "[Lcom/example/muster/muster/Order$Kind;"), (6, .class_ 34), (1, u "java/lang/Enum"), (40, u "producesUnit"), (0, u "()Z"), (7, .class_ 85), (0, u "com/example/muster/muster/Order")] 2

def k6c0 : Code := { maxStack := 2, maxLocals := 1, code := prog_36_method_4_code, exceptionTable := #[], attributes := #[] }
def k6m0 : Method := { name := "producesUnit", desc := "()Z", sig := { parameters := [], returnType := some .boolean }, accessFlags := 1, code := some k6c0 }
/-- com/example/muster/muster/Order$Kind -/
def k6 : Class := { plain "com/example/muster/muster/Order$Kind" (some 5) with
  accessFlags := 16433
  interfaces := #[]
  cf := some (fileOf pool6 1 #[.nestHost 84] #[{ accessFlags := 1, nameIndex := 75, descriptorIndex := 76, attributes := #[] }] 16433 32 #[] #[{ accessFlags := 16409, nameIndex := 5, descriptorIndex := 6, attributes := #[] }, { accessFlags := 16409, nameIndex := 9, descriptorIndex := 6, attributes := #[] }, { accessFlags := 16409, nameIndex := 12, descriptorIndex := 6, attributes := #[] }, { accessFlags := 16409, nameIndex := 15, descriptorIndex := 6, attributes := #[] }, { accessFlags := 16409, nameIndex := 18, descriptorIndex := 6, attributes := #[] }, { accessFlags := 16409, nameIndex := 21, descriptorIndex := 6, attributes := #[] }, { accessFlags := 4122, nameIndex := 24, descriptorIndex := 25, attributes := #[] }])
  fields := #[{ name := "MOVE", type := (.object "com/example/muster/muster/Order$Kind"), accessFlags := 16409, slot := 0, constantValue := 0 }, { name := "ATTACK", type := (.object "com/example/muster/muster/Order$Kind"), accessFlags := 16409, slot := 1, constantValue := 0 }, { name := "HARVEST", type := (.object "com/example/muster/muster/Order$Kind"), accessFlags := 16409, slot := 2, constantValue := 0 }, { name := "RETURN", type := (.object "com/example/muster/muster/Order$Kind"), accessFlags := 16409, slot := 3, constantValue := 0 }, { name := "TRAIN", type := (.object "com/example/muster/muster/Order$Kind"), accessFlags := 16409, slot := 4, constantValue := 0 }, { name := "BUILD", type := (.object "com/example/muster/muster/Order$Kind"), accessFlags := 16409, slot := 5, constantValue := 0 }, { name := "$VALUES", type := (.array (.object "com/example/muster/muster/Order$Kind")), accessFlags := 4122, slot := 6, constantValue := 0 }]
  methods := #[k6m0]
  instanceTypes := #[(.object "java/lang/String"), .int, .int]
  staticTypes := #[(.object "com/example/muster/muster/Order$Kind"), (.object "com/example/muster/muster/Order$Kind"), (.object "com/example/muster/muster/Order$Kind"), (.object "com/example/muster/muster/Order$Kind"), (.object "com/example/muster/muster/Order$Kind"), (.object "com/example/muster/muster/Order$Kind"), (.array (.object "com/example/muster/muster/Order$Kind"))]
  resolved := Array.replicate 88 none
  statics := some 0 }

def pool7 : Array CpInfo := pool [(1, u "java/lang/Cloneable"), (0, .class_ 1), (0, u "java/lang/Object"), (0, .class_ 3)] 3

/-- java/lang/Cloneable -/
def k7 : Class := { plain "java/lang/Cloneable" (some 0) with
  accessFlags := 1537
  interfaces := #[]
  cf := some (fileOf pool7 2 #[] #[] 1537 4 #[] #[])
  fields := #[]
  methods := #[]
  instanceTypes := #[]
  staticTypes := #[]
  resolved := Array.replicate 8 none
  statics := none }

/-- the primitive boolean -/
def k8 : Class := { plain "boolean" none with kind := .primitive 'Z', accessFlags := 0x411 }
/-- [Z -/
def k9 : Class := { plain "[Z" (some 0) with kind := .array 8 .boolean, interfaces := #[7, 4], accessFlags := 1041 }

/-- the primitive byte -/
def k10 : Class := { plain "byte" none with kind := .primitive 'B', accessFlags := 0x411 }
/-- [B -/
def k11 : Class := { plain "[B" (some 0) with kind := .array 10 .byte, interfaces := #[7, 4], accessFlags := 1041 }

/-- the primitive int -/
def k12 : Class := { plain "int" none with kind := .primitive 'I', accessFlags := 0x411 }
/-- [I -/
def k13 : Class := { plain "[I" (some 0) with kind := .array 12 .int, interfaces := #[7, 4], accessFlags := 1041 }

def heap : Heap := #[{ cls := 6, slots := #[.ref 1, .ref 2, .ref 3, .ref 4, .ref 5, .ref 6, .null], vm := .statics 6 },
  { cls := 6, slots := #[.null, .int 0, .int 0], vm := .none },
  { cls := 6, slots := #[.null, .int 1, .int 0], vm := .none },
  { cls := 6, slots := #[.null, .int 2, .int 0], vm := .none },
  { cls := 6, slots := #[.null, .int 3, .int 0], vm := .none },
  { cls := 6, slots := #[.null, .int 4, .int 0], vm := .none },
  { cls := 6, slots := #[.null, .int 5, .int 0], vm := .none }]
def classes : Array Class := #[k0, k1, k2, k3, k4, k5, k6, k7, k8, k9, k10, k11, k12, k13]
def interned : List (Array UInt16 × Addr) := []
def slotsUsed : Nat := 25
def theMethod : MethodId := ⟨1, 2⟩
def args0 : Array Value := #[.int 5]
def aboutOver (below : List Frame) : State where
  vm := { classes := classes, interned := interned.toArray }
  heap := heap
  slotsUsed := slotsUsed
  threads := #[{ frames := .invoking theMethod args0 :: below }]
def below0 : List Frame := [.native { method := ⟨0, 0⟩, args := #[] }]
def about1 : State := aboutOver below0
def p0 : Program := .bare "" "" ""
def e0 : Env := launch0.env 0 0 0
theorem w_frames : about1.frames = Frame.invoking theMethod args0 :: below0 := rfl
set_option maxRecDepth 65536 in
theorem w_args : argsFit about1.vm theMethod args0 = true := by decide +kernel
set_option maxRecDepth 65536 in
theorem w_heap : heapFits about1 = true := by decide +kernel
set_option maxRecDepth 65536 in
theorem w_runnable : about1.curStatus? = some .runnable := by decide +kernel
set_option maxRecDepth 65536 in
theorem w_alone : about1.alone = true := by decide +kernel
set_option maxRecDepth 65536 in
theorem w_named : about1.methodNamed? x = some theMethod := by decide +kernel
set_option maxRecDepth 65536 in
theorem w_hears : about1.hears theMethod below0 = true := by decide +kernel
set_option maxRecDepth 65536 in
theorem w_ripe : about1.ripe theMethod args0 below0 = true := by decide +kernel
theorem w_running : about1.status = .running := rfl
set_option maxRecDepth 65536 in
theorem w_room : about1.hasRoom e0.platform room_1 = true :=
  launch0.hasRoom_least _ room_1 (by decide +kernel) (by decide +kernel) (by decide +kernel) (by decide +kernel) (by decide +kernel) (by decide +kernel)
theorem allAtoms_all (ts : List Jvm.Cond) (a : Array Jvm.Value) (st : Jvm.State) : (allAtoms ts).before a st = ts.all (fun c => c.before a st) := by
  induction ts with
  | nil => rfl
  | cons c t ih =>
    show (Jvm.Cond.and c (allAtoms t)).before a st = _
    rw [Jvm.Cond.before_and, ih, List.all_cons]
def words1 : List Jvm.Cond := Jvm.Cond.code x code maxLocals ret :: tables_1
/-- a 'code' word, met by the world's own term for the bytes: nothing is compared byte by byte -/
theorem code_word {y : MethodName} {bytes : ByteArray} {mx : Nat} {rt : Option FieldType} {a : Array Value} {s : State} {m : MethodId} {meth : Method} {c : Code} (h1 : s.methodNamed? y = some m) (h2 : s.vm.method? m = some meth) (h3 : meth.code = some c) (h4 : c.code = bytes)
    (h5 : (c.maxLocals == mx && c.exceptionTable.isEmpty && decide (c.maxStack ≤ mostOperands) && decide (meth.sig.returnType = rt) && !meth.locks && decide (parseMethodDescriptor y.desc = some meth.sig)) = true) : (Jvm.Cond.code y bytes mx rt).before a s = true := by
  simp only [Bool.and_eq_true, beq_iff_eq, Bool.not_eq_true', decide_eq_true_eq] at h5
  obtain ⟨⟨⟨⟨⟨g1, g2⟩, g3⟩, g4⟩, g5⟩, g6⟩ := h5
  simp [Cond.before, Cond.holds, Cond.value, h1, h2, h3, h4, g1, g2, g3, g4, g5, g6]
def isCode : Jvm.Cond → Bool
  | .code _ _ _ _ => true
  | _ => false
theorem all_split {L : List Jvm.Cond} {P : Jvm.Cond → Bool} (h1 : L.all (fun c => isCode c || P c) = true) (h2 : ∀ c ∈ L.filter isCode, P c = true) : L.all P = true := by
  refine List.all_eq_true.mpr fun c hc => ?_
  have h := List.all_eq_true.mp h1 c hc
  rcases Bool.eq_false_or_eq_true (isCode c) with hi | hi
  · exact h2 c (List.mem_filter.mpr ⟨hc, hi⟩)
  · simpa [hi] using h
set_option maxRecDepth 65536 in
theorem w_c0 : (Jvm.Cond.code x code maxLocals ret).before args0 about1 = true := code_word (m := ⟨1, 2⟩) (meth := k1m2) (c := k1c2) (by decide +kernel) rfl rfl rfl (by decide +kernel)
set_option maxRecDepth 65536 in
theorem w_c1 : (Jvm.Cond.code ({ cls := "com/example/muster/muster/KindProducesUnitPinLaw", name := "kindOf", desc := "(I)Lcom/example/muster/muster/Order$Kind;" } : Jvm.MethodName) method_2_code (1 : Nat) (Option.some (Jvm.ClassFile.FieldType.object "com/example/muster/muster/Order$Kind"))).before args0 about1 = true := code_word (m := ⟨1, 1⟩) (meth := k1m1) (c := k1c1) (by decide +kernel) rfl rfl rfl (by decide +kernel)
set_option maxRecDepth 65536 in
theorem w_c2 : (Jvm.Cond.code ({ cls := "com/example/muster/muster/Order$Kind", name := "producesUnit", desc := "()Z" } : Jvm.MethodName) prog_36_method_4_code (1 : Nat) (Option.some Jvm.ClassFile.FieldType.boolean)).before args0 about1 = true := code_word (m := ⟨6, 0⟩) (meth := k6m0) (c := k6c0) (by decide +kernel) rfl rfl rfl (by decide +kernel)
def codes1 : List Jvm.Cond := [Jvm.Cond.code x code maxLocals ret, Jvm.Cond.code ({ cls := "com/example/muster/muster/KindProducesUnitPinLaw", name := "kindOf", desc := "(I)Lcom/example/muster/muster/Order$Kind;" } : Jvm.MethodName) method_2_code (1 : Nat) (Option.some (Jvm.ClassFile.FieldType.object "com/example/muster/muster/Order$Kind")), Jvm.Cond.code ({ cls := "com/example/muster/muster/Order$Kind", name := "producesUnit", desc := "()Z" } : Jvm.MethodName) prog_36_method_4_code (1 : Nat) (Option.some Jvm.ClassFile.FieldType.boolean)]
set_option maxRecDepth 65536 in
theorem codes_eq : words1.filter isCode = codes1 := rfl
theorem w_codes : ∀ c ∈ words1.filter isCode, c.before args0 about1 = true := by
  rw [codes_eq]
  intro c hc
  simp only [codes1, List.mem_cons, List.not_mem_nil, or_false] at hc
  rcases hc with rfl | rfl | rfl
  · exact w_c0
  · exact w_c1
  · exact w_c2
set_option maxRecDepth 65536 in
theorem w_t1 : (words1.take 24).all (fun c => isCode c || c.before args0 about1) = true := by decide +kernel
set_option maxRecDepth 65536 in
theorem w_t2 : (words1.drop 24).all (fun c => isCode c || c.before args0 about1) = true := by decide +kernel
theorem w_tables : (allAtoms (Jvm.Cond.code x code maxLocals ret :: tables_1)).before args0 about1 = true := by
  rw [allAtoms_all]
  show words1.all (fun c => c.before args0 about1) = true
  refine all_split ?_ w_codes
  rw [← List.take_append_drop 24 words1, List.all_append, w_t1, w_t2]
  rfl
set_option maxRecDepth 65536 in
theorem w_case : (Jvm.Cond.and given_1 narrow_1).before args0 about1 = true := by decide +kernel
theorem w_applies : (headSpec (Jvm.Cond.code x code maxLocals ret :: tables_1) room_1).applies x e0.platform about1 = true :=
  (Spec.applies_iff w_frames).mpr ⟨w_running, w_runnable, w_alone, w_named, w_hears, w_ripe, w_room, w_tables⟩
theorem atStart : AtStart classFile x code maxLocals ret World_1 tables_1 room_1 Calls_1 rest_1 Pre_1 launch0 p0 e0 about1 theMethod args0 below0 :=
  ⟨lists_1, trivial, launch0.admits_env _ _ _, launch0.least_env, fairChoices_fair.cas, fairChoices_fair.clock, w_frames, w_args, w_heap, w_applies, trivial, trivial, w_case⟩
end start1
theorem witness_1 : WitnessClaimed_1 := ⟨start1.p0, start1.e0, start1.about1, start1.theMethod, start1.args0, start1.below0, start1.atStart⟩
end Jvm.Pilot.@@N@@
