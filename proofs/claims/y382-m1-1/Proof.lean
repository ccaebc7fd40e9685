import JvmDerived
import JvmDerived.Pilot.@@N@@Statement
import JvmDerived.Pilot.@@N@@Code
set_option linter.unusedVariables false
set_option linter.unusedSimpArgs false
namespace Jvm.RoadKit
open Sem ClassFile Op Lib Jvm.Stand Jvm.Free Jvm.LawKit
section New
variable {p : Program} {l : Launch} {e : Env} {R : Room} {s : State} {m : MethodId} {args : Array Value} {below : List Frame} {meth : Method} {c : Code} {T : State} {locs : List Loc} {cells slots : Nat}
theorem retI (X : Stand p l e R s m args below meth c T locs cells slots) (hx : p.tables.exec = Jvm.exec) {pc : Nat} {Ls : Array Slot} {z : Int32} {rest : List Value} (hret : meth.sig.returnType = some .int) (hd : decode c.code pc = .ok (.ireturn, 1)) {fs : List Frame}
    (hl : ∀ (f : JFrame) (acts : List Action), f.method = m → f.locked = none → f.entered = [] → (doReturn e (T.setTop f) acts (some (.int z))).1 = T.setFrames fs) : Steps p.tables e below (T.setTop (mkF m pc Ls (.int z :: rest))) (T.setFrames fs) := by
  have hm' : T.vm.method? m = some meth := X.method'
  have hn : narrow .int (.int z) = .int z := rfl
  show Steps p.tables e below (T.setTop { method := m, pc := pc, locals := Ls, stack := _ :: rest, locked := none }) _
  jvm_step X.here [X.here.top, hx, hd, hm', hret, hn]
  first | (intro acts; rw [hl _ acts rfl rfl rfl]) | rw [hl _ _ rfl rfl rfl]
  exact Steps.refl _
theorem retJ (X : Stand p l e R s m args below meth c T locs cells slots) (hx : p.tables.exec = Jvm.exec) {pc : Nat} {Ls : Array Slot} {z : Int64} {rest : List Value} (hret : meth.sig.returnType = some .long) (hd : decode c.code pc = .ok (.lreturn, 1)) {fs : List Frame}
    (hl : ∀ (f : JFrame) (acts : List Action), f.method = m → f.locked = none → f.entered = [] → (doReturn e (T.setTop f) acts (some (.long z))).1 = T.setFrames fs) : Steps p.tables e below (T.setTop (mkF m pc Ls (.long z :: rest))) (T.setFrames fs) := by
  have hm' : T.vm.method? m = some meth := X.method'
  have hn : narrow .long (.long z) = .long z := rfl
  show Steps p.tables e below (T.setTop { method := m, pc := pc, locals := Ls, stack := _ :: rest, locked := none }) _
  jvm_step X.here [X.here.top, hx, hd, hm', hret, hn]
  first | (intro acts; rw [hl _ acts rfl rfl rfl]) | rw [hl _ _ rfl rfl rfl]
  exact Steps.refl _
end New
end Jvm.RoadKit
namespace Jvm.Pilot.@@N@@
open Jvm Jvm.ClassFile Sem Op Lib Jvm.Free Jvm.Stand Jvm.LawKit Jvm.RoadKit Bundle Jvm.Pilot.@@N@@.Jvm.D
theorem own_j1 {G : Prop} {A : Prop → Prop} (h1 : A G) (h2 : A G → G) : G := h2 h1
def own_pos (x : Int32) : Int32 := if (x &&& (2147483647 : Int32)) = 0 then 1 else (x &&& (2147483647 : Int32))
theorem own_k5 (p : Int32) : let k := (p &&& (2147483647 : Int32)) % (5 : Int32); k = 0 ∨ k = 1 ∨ k = 2 ∨ k = 3 ∨ k = 4 := by
  intro k
  have h0 := c_and p 2147483647 (by decide)
  have h1 := (c_irem (p &&& (2147483647 : Int32)) 5 5 (by decide)).1 h0.1
  have h2 : k.toInt = (p &&& (2147483647 : Int32)).toInt % 5 := h1
  have h3 : k.toInt = 0 ∨ k.toInt = 1 ∨ k.toInt = 2 ∨ k.toInt = 3 ∨ k.toInt = 4 := by omega
  rcases h3 with h | h | h | h | h
  · exact Or.inl (Int32.toInt_inj.mp h)
  · exact Or.inr (Or.inl (Int32.toInt_inj.mp h))
  · exact Or.inr (Or.inr (Or.inl (Int32.toInt_inj.mp h)))
  · exact Or.inr (Or.inr (Or.inr (Or.inl (Int32.toInt_inj.mp h))))
  · exact Or.inr (Or.inr (Or.inr (Or.inr (Int32.toInt_inj.mp h))))
theorem d1_0 : decode method_3_code 0 = .ok (.iload_n 0, 1) := by decide +kernel
theorem d1_1 : decode method_3_code 1 = .ok (.ldc 7, 2) := by decide +kernel
theorem d1_3 : decode method_3_code 3 = .ok (.iand, 1) := by decide +kernel
theorem d1_4 : decode method_3_code 4 = .ok (.istore_n 1, 1) := by decide +kernel
theorem d1_5 : decode method_3_code 5 = .ok (.iload_n 1, 1) := by decide +kernel
theorem d1_6 : decode method_3_code 6 = .ok (.ifCond .ne 7, 3) := by decide +kernel
theorem d1_9 : decode method_3_code 9 = .ok (.iconst 1, 1) := by decide +kernel
theorem d1_10 : decode method_3_code 10 = .ok (.goto 4, 3) := by decide +kernel
theorem d1_13 : decode method_3_code 13 = .ok (.iload_n 1, 1) := by decide +kernel
theorem d1_14 : decode method_3_code 14 = .ok (.ireturn, 1) := by decide +kernel
theorem pn_0 : plainName "com/example/cranfield/cranfield/index/PostingsCollectionFrequencyPinLaw" = true := by first | (simp [plainName, overriddenIn]; done) | decide +kernel
theorem ef_rmP (m : MethodId) (x0 : Int32) : entryFrame m #[(.int x0)] 2 = mkF m 0 #[.val (.int x0), .unset] [] := by first | (simp [entryFrame, mkF, argsToLocals, Value.category]; done) | rfl
def QrmP (Z : State) (p1 : Int32) (h0 : Heap) (n0 : Nat) (v : Option Value) (h : Heap) (L : List Loc) : Prop := v = some (.int (own_pos p1)) ∧ Fr n0 L ∧ h = h0
set_option maxRecDepth 65536 in
set_option maxHeartbeats 40000000 in
theorem rmP (l : Launch) (Z : State) (a0 : Array Value) (hw : ∀ d ∈ tables_1, d.before a0 Z = true) (ws : List Jvm.Cond) (p1 : Int32) (h0 : Heap) (n0 : Nat) (Z0 : n0 ≤ h0.size) :
    MetFree l (⟨"com/example/cranfield/cranfield/index/PostingsCollectionFrequencyPinLaw", "pos", "(I)I"⟩ : MethodName) (head1 (Jvm.Cond.code (⟨"com/example/cranfield/cranfield/index/PostingsCollectionFrequencyPinLaw", "pos", "(I)I"⟩ : MethodName) method_3_code 2 (some .int) :: ws) ({ frames := 0, cells := 0, slots := 0, locals := 0 } : Room)) (fun a U => a = #[(.int p1)] ∧ Z.Warmed39 U.vm ∧ U.heap = h0) (fun _ _ _ _ _ => True) (fun _ U o U' => ∃ v L, o = .returned v ∧ QrmP Z p1 h0 n0 v U'.heap L ∧ FrameEnd U o U' L ({ frames := 0, cells := 0, slots := 0, locals := 0 } : Room).cells ({ frames := 0, cells := 0, slots := 0, locals := 0 } : Room).slots) := by
  refine MetFree.of_bodySF (plainFor_of_name pn_0) hisR ?_
  intro p e s m args below meth c s₁ Bd hml0 hP hK
  obtain ⟨rfl, hZ, hh⟩ := hP
  have hx := Bd.exec
  have hby := Bd.bytes
  have hml : c.maxLocals = 2 := hml0
  have hown : s.vm.findClass "com/example/cranfield/cranfield/index/PostingsCollectionFrequencyPinLaw" = some m.cls := findClass_of_methodNamed Bd.named
  have hnm := (name_of_methodNamed Bd.named Bd.method).1
  have X0 : Stand p l e ({ frames := 0, cells := 0, slots := 0, locals := 0 } : Room) s m #[(.int p1)] below meth c s₁ [] 0 0 := Stand.of_body Bd
  have e0 : s₁.heap = h0 := by rw [← hh, Bd.state]; rfl
  have N0 := Fr.nil n0
  have pre0 : ∀ t_, Steps p.tables e below (s₁.setTop (mkF m 0 #[.val (.int p1), .unset] [])) t_ → Steps p.tables e below (s₁.setTop (entryFrame m #[(.int p1)] 2)) t_ := fun t_ k_ => castTop (ef_rmP m p1) k_
  have pre101 : ∀ t_, Steps p.tables e below (s₁.setTop (mkF m 6 #[.val (.int p1), .val (.int (p1 &&& (2147483647 : Int32)))] [(.int (p1 &&& (2147483647 : Int32)))])) t_ → Steps p.tables e below (s₁.setTop (entryFrame m #[(.int p1)] 2)) t_ := fun t_ k_ => pre0 _ (by
    show Steps p.tables e below (s₁.setTop (mkF m 0 #[.val (.int p1), .unset] [])) _
    refine XS.iloadN X0.here hx rfl (hb hby d1_0) rfl ?_
    show Steps p.tables e below (s₁.setTop (mkF m 1 #[.val (.int p1), .unset] [(.int p1)])) _
    refine X0.ldcInt hx hown (mvT hZ (hw _ (List.mem_of_getElem? (i := 0) rfl))) (g := (mkF m 1 #[.val (.int p1), .unset] [(.int p1)])) rfl (hb hby d1_1) _ ?_
    show Steps p.tables e below (s₁.setTop (mkF m 3 #[.val (.int p1), .unset] [(.int (2147483647 : Int32)), (.int p1)])) _
    refine XS.iand X0.here hx rfl (hb hby d1_3) rfl ?_
    show Steps p.tables e below (s₁.setTop (mkF m 4 #[.val (.int p1), .unset] [(.int (p1 &&& (2147483647 : Int32)))])) _
    refine XS.istoreN X0.here hx rfl (hb hby d1_4) rfl (l' := #[.val (.int p1), .val (.int (p1 &&& (2147483647 : Int32)))]) rfl ?_
    show Steps p.tables e below (s₁.setTop (mkF m 5 #[.val (.int p1), .val (.int (p1 &&& (2147483647 : Int32)))] [])) _
    refine XS.iloadN X0.here hx rfl (hb hby d1_5) rfl ?_
    exact k_)
  by_cases hc : (p1 &&& (2147483647 : Int32)) = (0 : Int32)
  · skip
    have pre102 : ∀ t_, Steps p.tables e below (s₁.setTop (mkF m 14 #[.val (.int p1), .val (.int (p1 &&& (2147483647 : Int32)))] [(.int (1 : Int32))])) t_ → Steps p.tables e below (s₁.setTop (entryFrame m #[(.int p1)] 2)) t_ := fun t_ k_ => pre101 _ (by
      show Steps p.tables e below (s₁.setTop (mkF m 6 #[.val (.int p1), .val (.int (p1 &&& (2147483647 : Int32)))] [(.int (p1 &&& (2147483647 : Int32)))])) _
      refine XS.ifNo X0.here hx rfl (hb hby d1_6) rfl ((if0 _ _).trans (teq hc).2) ?_
      show Steps p.tables e below (s₁.setTop (mkF m 9 #[.val (.int p1), .val (.int (p1 &&& (2147483647 : Int32)))] [])) _
      refine XS.iconst X0.here hx rfl (hb hby d1_9) ?_
      show Steps p.tables e below (s₁.setTop (mkF m 10 #[.val (.int p1), .val (.int (p1 &&& (2147483647 : Int32)))] [(.int (1 : Int32))])) _
      refine XS.goto X0.here hx rfl (pc0 := 10) (pc' := 14) rfl (hb hby d1_10) (by decide) (by decide) ?_
      exact k_)
    obtain ⟨fs, hr, hrun, hended, hW, hsame⟩ := X0.leave (v := some (.int (1 : Int32))) (fun h => by rw [Bd.returns] at h; cases h)
    refine ⟨_, _, pre102 _ ?_, hrun, hended, _, _, rfl, ?_, ⟨_, rfl⟩, hW, hsame.mono (by decide) (by decide)⟩
    · show Steps p.tables e below (s₁.setTop (mkF m 14 #[.val (.int p1), .val (.int (p1 &&& (2147483647 : Int32)))] [(.int (1 : Int32))])) _
      exact retI X0 hx Bd.returns (hb hby d1_14) hr
    · show QrmP Z p1 h0 n0 _ s₁.heap _
      rw [e0]
      exact ⟨by rw [own_pos, if_pos hc], N0, rfl⟩
  · skip
    have pre103 : ∀ t_, Steps p.tables e below (s₁.setTop (mkF m 14 #[.val (.int p1), .val (.int (p1 &&& (2147483647 : Int32)))] [(.int (p1 &&& (2147483647 : Int32)))])) t_ → Steps p.tables e below (s₁.setTop (entryFrame m #[(.int p1)] 2)) t_ := fun t_ k_ => pre101 _ (by
      show Steps p.tables e below (s₁.setTop (mkF m 6 #[.val (.int p1), .val (.int (p1 &&& (2147483647 : Int32)))] [(.int (p1 &&& (2147483647 : Int32)))])) _
      refine XS.ifYes X0.here hx rfl (pc0 := 6) (pc' := 13) rfl (hb hby d1_6) rfl ((if0 _ _).trans (feq hc).2) (by decide) (by decide) ?_
      show Steps p.tables e below (s₁.setTop (mkF m 13 #[.val (.int p1), .val (.int (p1 &&& (2147483647 : Int32)))] [])) _
      refine XS.iloadN X0.here hx rfl (hb hby d1_13) rfl ?_
      exact k_)
    obtain ⟨fs, hr, hrun, hended, hW, hsame⟩ := X0.leave (v := some (.int (p1 &&& (2147483647 : Int32)))) (fun h => by rw [Bd.returns] at h; cases h)
    refine ⟨_, _, pre103 _ ?_, hrun, hended, _, _, rfl, ?_, ⟨_, rfl⟩, hW, hsame.mono (by decide) (by decide)⟩
    · show Steps p.tables e below (s₁.setTop (mkF m 14 #[.val (.int p1), .val (.int (p1 &&& (2147483647 : Int32)))] [(.int (p1 &&& (2147483647 : Int32)))])) _
      exact retI X0 hx Bd.returns (hb hby d1_14) hr
    · show QrmP Z p1 h0 n0 _ s₁.heap _
      rw [e0]
      exact ⟨by rw [own_pos, if_neg hc], N0, rfl⟩
theorem d2_0 : decode prog_31_method_1_code 0 = .ok (.aload_n 0, 1) := by decide +kernel
theorem d2_1 : decode prog_31_method_1_code 1 = .ok (.invokespecial 1, 3) := by decide +kernel
theorem d2_4 : decode prog_31_method_1_code 4 = .ok (.aload_n 1, 1) := by decide +kernel
theorem d2_5 : decode prog_31_method_1_code 5 = .ok (.arraylength, 1) := by decide +kernel
theorem d2_6 : decode prog_31_method_1_code 6 = .ok (.aload_n 2, 1) := by decide +kernel
theorem d2_7 : decode prog_31_method_1_code 7 = .ok (.arraylength, 1) := by decide +kernel
theorem d2_8 : decode prog_31_method_1_code 8 = .ok (.if_icmp .eq 20, 3) := by decide +kernel
theorem d2_28 : decode prog_31_method_1_code 28 = .ok (.aload_n 0, 1) := by decide +kernel
theorem d2_29 : decode prog_31_method_1_code 29 = .ok (.aload_n 1, 1) := by decide +kernel
theorem d2_30 : decode prog_31_method_1_code 30 = .ok (.putfield 16, 3) := by decide +kernel
theorem d2_33 : decode prog_31_method_1_code 33 = .ok (.aload_n 0, 1) := by decide +kernel
theorem d2_34 : decode prog_31_method_1_code 34 = .ok (.aload_n 2, 1) := by decide +kernel
theorem d2_35 : decode prog_31_method_1_code 35 = .ok (.putfield 22, 3) := by decide +kernel
theorem d2_38 : decode prog_31_method_1_code 38 = .ok (.return_, 1) := by decide +kernel
theorem pn_1 : plainName "com/example/cranfield/cranfield/index/Postings" = true := by first | (simp [plainName, overriddenIn]; done) | decide +kernel
theorem ef_rmC (m : MethodId) (x0 : Addr) (x1 : Addr) (x2 : Addr) : entryFrame m #[(.ref x0), (.ref x1), (.ref x2)] 3 = mkF m 0 #[.val (.ref x0), .val (.ref x1), .val (.ref x2)] [] := by first | (simp [entryFrame, mkF, argsToLocals, Value.category]; done) | rfl
def QrmC (Z : State) (a1 : Addr) (a2 : Addr) (a3 : Addr) (k2 : ClassId) (k3 : ClassId) (nn : Int32) (v2 : List Value) (v3 : List Value) (h0 : Heap) (n0 : Nat) (v : Option Value) (h : Heap) (L : List Loc) : Prop := v = none ∧ Fr n0 L ∧ Keep h0 h [a1] ∧ Exa Z h a1 "com/example/cranfield/cranfield/index/Postings" ∧ Fld Z h a1 "com/example/cranfield/cranfield/index/Postings" "counts" "[I" (.ref a3)
set_option maxRecDepth 65536 in
set_option maxHeartbeats 40000000 in
theorem rmC (l : Launch) (Z : State) (a0 : Array Value) (hw : ∀ d ∈ tables_1, d.before a0 Z = true) (ws : List Jvm.Cond) (a1 : Addr) (a2 : Addr) (a3 : Addr) (k2 : ClassId) (k3 : ClassId) (nn : Int32) (v2 : List Value) (v3 : List Value) (h0 : Heap) (n0 : Nat) (Z0 : n0 ≤ h0.size) (E_o : Exa Z h0 a1 "com/example/cranfield/cranfield/index/Postings") (F_0 : Fld Z h0 a1 "com/example/cranfield/cranfield/index/Postings" "documents" "[I" .null) (F_1 : Fld Z h0 a1 "com/example/cranfield/cranfield/index/Postings" "counts" "[I" .null) (g_a1 : n0 ≤ a1) (V2 : Arv Z h0 a2 k2 .int nn v2 (.int (0 : Int32))) (V3 : Arv Z h0 a3 k3 .int nn v3 (.int (0 : Int32))) :
    MetFree l (⟨"com/example/cranfield/cranfield/index/Postings", "<init>", "([I[I)V"⟩ : MethodName) (head1 (Jvm.Cond.code (⟨"com/example/cranfield/cranfield/index/Postings", "<init>", "([I[I)V"⟩ : MethodName) prog_31_method_1_code 3 none :: ws) ({ frames := 1, cells := 0, slots := 0, locals := 12 } : Room)) (fun a U => a = #[(.ref a1), (.ref a2), (.ref a3)] ∧ Z.Warmed39 U.vm ∧ U.heap = h0) (fun _ _ _ _ _ => True) (fun _ U o U' => ∃ v L, o = .returned v ∧ QrmC Z a1 a2 a3 k2 k3 nn v2 v3 h0 n0 v U'.heap L ∧ FrameEnd U o U' L ({ frames := 1, cells := 0, slots := 0, locals := 12 } : Room).cells ({ frames := 1, cells := 0, slots := 0, locals := 12 } : Room).slots) := by
  refine MetFree.of_bodySF (plainFor_of_name pn_1) hisR ?_
  intro p e s m args below meth c s₁ Bd hml0 hP hK
  obtain ⟨rfl, hZ, hh⟩ := hP
  have hx := Bd.exec
  have hby := Bd.bytes
  have hml : c.maxLocals = 3 := hml0
  have hown : s.vm.findClass "com/example/cranfield/cranfield/index/Postings" = some m.cls := findClass_of_methodNamed Bd.named
  have hnm := (name_of_methodNamed Bd.named Bd.method).1
  have X0 : Stand p l e ({ frames := 1, cells := 0, slots := 0, locals := 12 } : Room) s m #[(.ref a1), (.ref a2), (.ref a3)] below meth c s₁ [] 0 0 := Stand.of_body Bd
  have e0 : s₁.heap = h0 := by rw [← hh, Bd.state]; rfl
  have N0 := Fr.nil n0
  have pre0 : ∀ t_, Steps p.tables e below (s₁.setTop (mkF m 0 #[.val (.ref a1), .val (.ref a2), .val (.ref a3)] [])) t_ → Steps p.tables e below (s₁.setTop (entryFrame m #[(.ref a1), (.ref a2), (.ref a3)] 3)) t_ := fun t_ k_ => castTop (ef_rmC m a1 a2 a3) k_
  obtain ⟨T101, X101, e101, st101⟩ := initO X0 hx hZ hown (hw _ (List.mem_of_getElem? (i := 12) rfl)) (hw _ (List.mem_of_getElem? (i := 13) rfl)) (hw _ (List.mem_of_getElem? (i := 14) rfl)) e0 (g := (mkF m 1 #[.val (.ref a1), .val (.ref a2), .val (.ref a3)] [(.ref a1)])) rfl (by rw [hml]; rfl) rfl (hb hby d2_1) (by decide) (W := 0) (by show 2 * 0 + _ ≤ _; exact Nat.le_of_eq rfl) (by decide)
  obtain ⟨c2, A2, -, S2, M2, -, -⟩ := V2
  obtain ⟨c3, A3, -, S3, M3, -, -⟩ := V3
  obtain ⟨T102, h102, X102, e102, W102, st102⟩ := putF X101 hx hZ hown (host := "") (Or.inl (hw _ (List.mem_of_getElem? (i := 15) rfl))) Via.refl e101 F_0 E_o (Or.inr ⟨(hw _ (List.mem_of_getElem? (i := 16) rfl)), rfl, hnm⟩) (hw _ (List.mem_of_getElem? (i := 7) rfl)) (ty := (.array .int)) (by decide) rfl rfl (g := (mkF m 30 #[.val (.ref a1), .val (.ref a2), .val (.ref a3)] [(.ref a2), (.ref a1)])) rfl rfl (hb hby d2_30)
  have F1_103 := F_1.other W102 (Or.inr (slot_ne (Or.inr (hw _ (List.mem_of_getElem? (i := 18) rfl))) (Or.inr (hw _ (List.mem_of_getElem? (i := 16) rfl))) (by decide) (t := (.array .int)) (t' := (.array .int)) (by decide) (by decide)))
  have E_104 := E_o.wr W102
  have K_105 := (Keep.refl h0 [a1]).wr W102 (Or.inl (List.mem_of_getElem? (i := 0) rfl))
  have F0_106 := F_0.same W102
  have N102 := Fr.snoc X102 N0 g_a1
  have Z107 : n0 ≤ h102.size := Nat.le_trans Z0 ((Keep.of_wr W102).1)
  obtain ⟨T108, h108, X108, e108, W108, st108⟩ := putF X102 hx hZ hown (host := "") (Or.inl (hw _ (List.mem_of_getElem? (i := 17) rfl))) Via.refl e102 F1_103 E_104 (Or.inr ⟨(hw _ (List.mem_of_getElem? (i := 18) rfl)), rfl, hnm⟩) (hw _ (List.mem_of_getElem? (i := 7) rfl)) (ty := (.array .int)) (by decide) rfl rfl (g := (mkF m 35 #[.val (.ref a1), .val (.ref a2), .val (.ref a3)] [(.ref a3), (.ref a1)])) rfl rfl (hb hby d2_35)
  have F0_109 := F0_106.other W108 (Or.inr (slot_ne (Or.inr (hw _ (List.mem_of_getElem? (i := 16) rfl))) (Or.inr (hw _ (List.mem_of_getElem? (i := 18) rfl))) (by decide) (t := (.array .int)) (t' := (.array .int)) (by decide) (by decide)))
  have E_110 := E_104.wr W108
  have K_111 := K_105.wr W108 (Or.inl (List.mem_of_getElem? (i := 0) rfl))
  have F1_112 := F1_103.same W108
  have N108 := Fr.snoc X108 N102 g_a1
  have Z113 : n0 ≤ h108.size := Nat.le_trans Z107 ((Keep.of_wr W108).1)
  have pre114 : ∀ t_, Steps p.tables e below (T108.setTop (mkF m 38 #[.val (.ref a1), .val (.ref a2), .val (.ref a3)] [])) t_ → Steps p.tables e below (s₁.setTop (entryFrame m #[(.ref a1), (.ref a2), (.ref a3)] 3)) t_ := fun t_ k_ => pre0 _ (by
    show Steps p.tables e below (s₁.setTop (mkF m 0 #[.val (.ref a1), .val (.ref a2), .val (.ref a3)] [])) _
    refine XS.aloadN X0.here hx rfl (hb hby d2_0) rfl rfl ?_
    show Steps p.tables e below (s₁.setTop (mkF m 1 #[.val (.ref a1), .val (.ref a2), .val (.ref a3)] [(.ref a1)])) _
    refine st101 _ ?_
    show Steps p.tables e below (T101.setTop (mkF m 4 #[.val (.ref a1), .val (.ref a2), .val (.ref a3)] [])) _
    refine XS.aloadN X101.here hx rfl (hb hby d2_4) rfl rfl ?_
    show Steps p.tables e below (T101.setTop (mkF m 5 #[.val (.ref a1), .val (.ref a2), .val (.ref a3)] [(.ref a2)])) _
    refine X101.arraylength hx (by rw [e101]; exact A2.1) (State.isArrayOf_alike hZ.alike A2.2.1) (g := (mkF m 5 #[.val (.ref a1), .val (.ref a2), .val (.ref a3)] [(.ref a2)])) rfl rfl (hb hby d2_5) _ ?_
    rw [len_of S2 M2]
    show Steps p.tables e below (T101.setTop (mkF m 6 #[.val (.ref a1), .val (.ref a2), .val (.ref a3)] [(.int nn)])) _
    refine XS.aloadN X101.here hx rfl (hb hby d2_6) rfl rfl ?_
    show Steps p.tables e below (T101.setTop (mkF m 7 #[.val (.ref a1), .val (.ref a2), .val (.ref a3)] [(.ref a3), (.int nn)])) _
    refine X101.arraylength hx (by rw [e101]; exact A3.1) (State.isArrayOf_alike hZ.alike A3.2.1) (g := (mkF m 7 #[.val (.ref a1), .val (.ref a2), .val (.ref a3)] [(.ref a3), (.int nn)])) rfl rfl (hb hby d2_7) _ ?_
    rw [len_of S3 M3]
    show Steps p.tables e below (T101.setTop (mkF m 8 #[.val (.ref a1), .val (.ref a2), .val (.ref a3)] [(.int nn), (.int nn)])) _
    refine XS.icmpYes X101.here hx rfl (pc0 := 8) (pc' := 28) rfl (hb hby d2_8) rfl (teq (rfl : nn = nn)).1 (by decide) (by decide) ?_
    show Steps p.tables e below (T101.setTop (mkF m 28 #[.val (.ref a1), .val (.ref a2), .val (.ref a3)] [])) _
    refine XS.aloadN X101.here hx rfl (hb hby d2_28) rfl rfl ?_
    show Steps p.tables e below (T101.setTop (mkF m 29 #[.val (.ref a1), .val (.ref a2), .val (.ref a3)] [(.ref a1)])) _
    refine XS.aloadN X101.here hx rfl (hb hby d2_29) rfl rfl ?_
    show Steps p.tables e below (T101.setTop (mkF m 30 #[.val (.ref a1), .val (.ref a2), .val (.ref a3)] [(.ref a2), (.ref a1)])) _
    refine st102 _ ?_
    show Steps p.tables e below (T102.setTop (mkF m 33 #[.val (.ref a1), .val (.ref a2), .val (.ref a3)] [])) _
    refine XS.aloadN X102.here hx rfl (hb hby d2_33) rfl rfl ?_
    show Steps p.tables e below (T102.setTop (mkF m 34 #[.val (.ref a1), .val (.ref a2), .val (.ref a3)] [(.ref a1)])) _
    refine XS.aloadN X102.here hx rfl (hb hby d2_34) rfl rfl ?_
    show Steps p.tables e below (T102.setTop (mkF m 35 #[.val (.ref a1), .val (.ref a2), .val (.ref a3)] [(.ref a3), (.ref a1)])) _
    refine st108 _ ?_
    exact k_)
  obtain ⟨fs, hr, hrun, hended, hW, hsame⟩ := X108.leave (v := none) (fun _ => rfl)
  refine ⟨_, _, pre114 _ ?_, hrun, hended, _, _, rfl, ?_, ⟨_, rfl⟩, hW, hsame.mono (by decide) (by decide)⟩
  · show Steps p.tables e below (T108.setTop (mkF m 38 #[.val (.ref a1), .val (.ref a2), .val (.ref a3)] [])) _
    exact X108.returnOut hx Bd.returns (hb hby d2_38) hr
  · show QrmC Z a1 a2 a3 k2 k3 nn v2 v3 h0 n0 _ T108.heap _
    rw [e108]
    exact ⟨rfl, N108, K_111, E_110, F1_112⟩
theorem d4_0 : decode prog_31_method_3_code 0 = .ok (.lconst 0, 1) := by decide +kernel
theorem d4_1 : decode prog_31_method_3_code 1 = .ok (.lstore_n 1, 1) := by decide +kernel
theorem d4_2 : decode prog_31_method_3_code 2 = .ok (.aload_n 0, 1) := by decide +kernel
theorem d4_3 : decode prog_31_method_3_code 3 = .ok (.getfield 22, 3) := by decide +kernel
theorem d4_6 : decode prog_31_method_3_code 6 = .ok (.astore_n 3, 1) := by decide +kernel
theorem d4_7 : decode prog_31_method_3_code 7 = .ok (.aload_n 3, 1) := by decide +kernel
theorem d4_8 : decode prog_31_method_3_code 8 = .ok (.arraylength, 1) := by decide +kernel
theorem d4_9 : decode prog_31_method_3_code 9 = .ok (.istore 4, 2) := by decide +kernel
theorem d4_11 : decode prog_31_method_3_code 11 = .ok (.iconst 0, 1) := by decide +kernel
theorem d4_12 : decode prog_31_method_3_code 12 = .ok (.istore 5, 2) := by decide +kernel
theorem d4_14 : decode prog_31_method_3_code 14 = .ok (.iload 5, 2) := by decide +kernel
theorem d4_16 : decode prog_31_method_3_code 16 = .ok (.iload 4, 2) := by decide +kernel
theorem d4_18 : decode prog_31_method_3_code 18 = .ok (.if_icmp .ge 21, 3) := by decide +kernel
theorem d4_39 : decode prog_31_method_3_code 39 = .ok (.lload_n 1, 1) := by decide +kernel
theorem d4_40 : decode prog_31_method_3_code 40 = .ok (.lreturn, 1) := by decide +kernel
theorem ef_rmF0 (m : MethodId) (x0 : Addr) : entryFrame m #[(.ref x0)] 7 = mkF m 0 #[.val (.ref x0), .unset, .unset, .unset, .unset, .unset, .unset] [] := by first | (simp [entryFrame, mkF, argsToLocals, Value.category]; done) | rfl
def QrmF0 (Z : State) (a1 : Addr) (ta : Addr) (kx : ClassId) (h0 : Heap) (n0 : Nat) (v : Option Value) (h : Heap) (L : List Loc) : Prop := v = some (.long (0 : Int64)) ∧ Fr n0 L ∧ h = h0
set_option maxRecDepth 65536 in
set_option maxHeartbeats 40000000 in
theorem rmF0 (l : Launch) (Z : State) (a0 : Array Value) (hw : ∀ d ∈ tables_1, d.before a0 Z = true) (ws : List Jvm.Cond) (a1 : Addr) (ta : Addr) (kx : ClassId) (h0 : Heap) (n0 : Nat) (Z0 : n0 ≤ h0.size) (F_c : Fld Z h0 a1 "com/example/cranfield/cranfield/index/Postings" "counts" "[I" (.ref ta)) (V : Arv Z h0 ta kx .int (0 : Int32) [] (.int (0 : Int32))) :
    MetFree l (⟨"com/example/cranfield/cranfield/index/Postings", "collectionFrequency", "()J"⟩ : MethodName) (head1 (Jvm.Cond.code (⟨"com/example/cranfield/cranfield/index/Postings", "collectionFrequency", "()J"⟩ : MethodName) prog_31_method_3_code 7 (some .long) :: ws) ({ frames := 0, cells := 0, slots := 0, locals := 0 } : Room)) (fun a U => a = #[(.ref a1)] ∧ Z.Warmed39 U.vm ∧ U.heap = h0) (fun _ _ _ _ _ => True) (fun _ U o U' => ∃ v L, o = .returned v ∧ QrmF0 Z a1 ta kx h0 n0 v U'.heap L ∧ FrameEnd U o U' L ({ frames := 0, cells := 0, slots := 0, locals := 0 } : Room).cells ({ frames := 0, cells := 0, slots := 0, locals := 0 } : Room).slots) := by
  refine MetFree.of_bodySF (plainFor_of_name pn_1) hisR ?_
  intro p e s m args below meth c s₁ Bd hml0 hP hK
  obtain ⟨rfl, hZ, hh⟩ := hP
  have hx := Bd.exec
  have hby := Bd.bytes
  have hml : c.maxLocals = 7 := hml0
  have hown : s.vm.findClass "com/example/cranfield/cranfield/index/Postings" = some m.cls := findClass_of_methodNamed Bd.named
  have hnm := (name_of_methodNamed Bd.named Bd.method).1
  have X0 : Stand p l e ({ frames := 0, cells := 0, slots := 0, locals := 0 } : Room) s m #[(.ref a1)] below meth c s₁ [] 0 0 := Stand.of_body Bd
  have e0 : s₁.heap = h0 := by rw [← hh, Bd.state]; rfl
  have N0 := Fr.nil n0
  have pre0 : ∀ t_, Steps p.tables e below (s₁.setTop (mkF m 0 #[.val (.ref a1), .unset, .unset, .unset, .unset, .unset, .unset] [])) t_ → Steps p.tables e below (s₁.setTop (entryFrame m #[(.ref a1)] 7)) t_ := fun t_ k_ => castTop (ef_rmF0 m a1) k_
  obtain ⟨T101, X101, e101, st101⟩ := getF X0 hx hZ hown (host := "") (Or.inl (hw _ (List.mem_of_getElem? (i := 17) rfl))) Via.refl e0 F_c (g := (mkF m 3 #[.val (.ref a1), .val (.long (0 : Int64)), .second, .unset, .unset, .unset, .unset] [(.ref a1)])) rfl rfl (hb hby d4_3)
  obtain ⟨cl, Ar, -, Sz, Ng, Hs, -⟩ := V
  have pre102 : ∀ t_, Steps p.tables e below (T101.setTop (mkF m 40 #[.val (.ref a1), .val (.long (0 : Int64)), .second, .val (.ref ta), .val (.int (0 : Int32)), .val (.int (0 : Int32)), .unset] [(.long (0 : Int64))])) t_ → Steps p.tables e below (s₁.setTop (entryFrame m #[(.ref a1)] 7)) t_ := fun t_ k_ => pre0 _ (by
    show Steps p.tables e below (s₁.setTop (mkF m 0 #[.val (.ref a1), .unset, .unset, .unset, .unset, .unset, .unset] [])) _
    refine XS.lconst X0.here hx rfl (hb hby d4_0) ?_
    show Steps p.tables e below (s₁.setTop (mkF m 1 #[.val (.ref a1), .unset, .unset, .unset, .unset, .unset, .unset] [(.long (0 : Int64))])) _
    refine XS.lstoreN X0.here hx rfl (hb hby d4_1) rfl (l' := #[.val (.ref a1), .val (.long (0 : Int64)), .second, .unset, .unset, .unset, .unset]) rfl ?_
    show Steps p.tables e below (s₁.setTop (mkF m 2 #[.val (.ref a1), .val (.long (0 : Int64)), .second, .unset, .unset, .unset, .unset] [])) _
    refine XS.aloadN X0.here hx rfl (hb hby d4_2) rfl rfl ?_
    show Steps p.tables e below (s₁.setTop (mkF m 3 #[.val (.ref a1), .val (.long (0 : Int64)), .second, .unset, .unset, .unset, .unset] [(.ref a1)])) _
    refine st101 _ ?_
    show Steps p.tables e below (T101.setTop (mkF m 6 #[.val (.ref a1), .val (.long (0 : Int64)), .second, .unset, .unset, .unset, .unset] [(.ref ta)])) _
    refine XS.astoreN X101.here hx rfl (hb hby d4_6) rfl rfl (l' := #[.val (.ref a1), .val (.long (0 : Int64)), .second, .val (.ref ta), .unset, .unset, .unset]) rfl ?_
    show Steps p.tables e below (T101.setTop (mkF m 7 #[.val (.ref a1), .val (.long (0 : Int64)), .second, .val (.ref ta), .unset, .unset, .unset] [])) _
    refine XS.aloadN X101.here hx rfl (hb hby d4_7) rfl rfl ?_
    show Steps p.tables e below (T101.setTop (mkF m 8 #[.val (.ref a1), .val (.long (0 : Int64)), .second, .val (.ref ta), .unset, .unset, .unset] [(.ref ta)])) _
    refine X101.arraylength hx (by rw [e101]; exact Ar.1) (State.isArrayOf_alike hZ.alike Ar.2.1) (g := (mkF m 8 #[.val (.ref a1), .val (.long (0 : Int64)), .second, .val (.ref ta), .unset, .unset, .unset] [(.ref ta)])) rfl rfl (hb hby d4_8) _ ?_
    rw [len_of Sz Ng]
    show Steps p.tables e below (T101.setTop (mkF m 9 #[.val (.ref a1), .val (.long (0 : Int64)), .second, .val (.ref ta), .unset, .unset, .unset] [(.int (0 : Int32))])) _
    refine XS.istore X101.here hx rfl (hb hby d4_9) rfl (l' := #[.val (.ref a1), .val (.long (0 : Int64)), .second, .val (.ref ta), .val (.int (0 : Int32)), .unset, .unset]) rfl ?_
    show Steps p.tables e below (T101.setTop (mkF m 11 #[.val (.ref a1), .val (.long (0 : Int64)), .second, .val (.ref ta), .val (.int (0 : Int32)), .unset, .unset] [])) _
    refine XS.iconst X101.here hx rfl (hb hby d4_11) ?_
    show Steps p.tables e below (T101.setTop (mkF m 12 #[.val (.ref a1), .val (.long (0 : Int64)), .second, .val (.ref ta), .val (.int (0 : Int32)), .unset, .unset] [(.int (0 : Int32))])) _
    refine XS.istore X101.here hx rfl (hb hby d4_12) rfl (l' := #[.val (.ref a1), .val (.long (0 : Int64)), .second, .val (.ref ta), .val (.int (0 : Int32)), .val (.int (0 : Int32)), .unset]) rfl ?_
    show Steps p.tables e below (T101.setTop (mkF m 14 #[.val (.ref a1), .val (.long (0 : Int64)), .second, .val (.ref ta), .val (.int (0 : Int32)), .val (.int (0 : Int32)), .unset] [])) _
    refine XS.iload X101.here hx rfl (hb hby d4_14) rfl ?_
    show Steps p.tables e below (T101.setTop (mkF m 16 #[.val (.ref a1), .val (.long (0 : Int64)), .second, .val (.ref ta), .val (.int (0 : Int32)), .val (.int (0 : Int32)), .unset] [(.int (0 : Int32))])) _
    refine XS.iload X101.here hx rfl (hb hby d4_16) rfl ?_
    show Steps p.tables e below (T101.setTop (mkF m 18 #[.val (.ref a1), .val (.long (0 : Int64)), .second, .val (.ref ta), .val (.int (0 : Int32)), .val (.int (0 : Int32)), .unset] [(.int (0 : Int32)), (.int (0 : Int32))])) _
    refine XS.icmpYes X101.here hx rfl (pc0 := 18) (pc' := 39) rfl (hb hby d4_18) rfl (flt (by decide)).2.1 (by decide) (by decide) ?_
    show Steps p.tables e below (T101.setTop (mkF m 39 #[.val (.ref a1), .val (.long (0 : Int64)), .second, .val (.ref ta), .val (.int (0 : Int32)), .val (.int (0 : Int32)), .unset] [])) _
    refine XS.lloadN X101.here hx rfl (hb hby d4_39) rfl ?_
    exact k_)
  obtain ⟨fs, hr, hrun, hended, hW, hsame⟩ := X101.leave (v := some (.long (0 : Int64))) (fun h => by rw [Bd.returns] at h; cases h)
  refine ⟨_, _, pre102 _ ?_, hrun, hended, _, _, rfl, ?_, ⟨_, rfl⟩, hW, hsame.mono (by decide) (by decide)⟩
  · show Steps p.tables e below (T101.setTop (mkF m 40 #[.val (.ref a1), .val (.long (0 : Int64)), .second, .val (.ref ta), .val (.int (0 : Int32)), .val (.int (0 : Int32)), .unset] [(.long (0 : Int64))])) _
    exact retJ X101 hx Bd.returns (hb hby d4_40) hr
  · show QrmF0 Z a1 ta kx h0 n0 _ T101.heap _
    rw [e101]
    exact ⟨rfl, N0, rfl⟩
theorem d4_21 : decode prog_31_method_3_code 21 = .ok (.aload_n 3, 1) := by decide +kernel
theorem d4_22 : decode prog_31_method_3_code 22 = .ok (.iload 5, 2) := by decide +kernel
theorem d4_24 : decode prog_31_method_3_code 24 = .ok (.iaload, 1) := by decide +kernel
theorem d4_25 : decode prog_31_method_3_code 25 = .ok (.istore 6, 2) := by decide +kernel
theorem d4_27 : decode prog_31_method_3_code 27 = .ok (.lload_n 1, 1) := by decide +kernel
theorem d4_28 : decode prog_31_method_3_code 28 = .ok (.iload 6, 2) := by decide +kernel
theorem d4_30 : decode prog_31_method_3_code 30 = .ok (.i2l, 1) := by decide +kernel
theorem d4_31 : decode prog_31_method_3_code 31 = .ok (.ladd, 1) := by decide +kernel
theorem d4_32 : decode prog_31_method_3_code 32 = .ok (.lstore_n 1, 1) := by decide +kernel
theorem d4_33 : decode prog_31_method_3_code 33 = .ok (.iinc 5 1, 3) := by decide +kernel
theorem d4_36 : decode prog_31_method_3_code 36 = .ok (.goto (-22), 3) := by decide +kernel
theorem ef_rmF1 (m : MethodId) (x0 : Addr) : entryFrame m #[(.ref x0)] 7 = mkF m 0 #[.val (.ref x0), .unset, .unset, .unset, .unset, .unset, .unset] [] := by first | (simp [entryFrame, mkF, argsToLocals, Value.category]; done) | rfl
def QrmF1 (Z : State) (a1 : Addr) (ta : Addr) (kx : ClassId) (x0 : Int32) (h0 : Heap) (n0 : Nat) (v : Option Value) (h : Heap) (L : List Loc) : Prop := v = some (.long ((0 : Int64) + (x0.toInt64))) ∧ Fr n0 L ∧ h = h0
set_option maxRecDepth 65536 in
set_option maxHeartbeats 40000000 in
theorem rmF1 (l : Launch) (Z : State) (a0 : Array Value) (hw : ∀ d ∈ tables_1, d.before a0 Z = true) (ws : List Jvm.Cond) (a1 : Addr) (ta : Addr) (kx : ClassId) (x0 : Int32) (h0 : Heap) (n0 : Nat) (Z0 : n0 ≤ h0.size) (F_c : Fld Z h0 a1 "com/example/cranfield/cranfield/index/Postings" "counts" "[I" (.ref ta)) (V : Arv Z h0 ta kx .int (1 : Int32) [(.int x0)] (.int (0 : Int32))) :
    MetFree l (⟨"com/example/cranfield/cranfield/index/Postings", "collectionFrequency", "()J"⟩ : MethodName) (head1 (Jvm.Cond.code (⟨"com/example/cranfield/cranfield/index/Postings", "collectionFrequency", "()J"⟩ : MethodName) prog_31_method_3_code 7 (some .long) :: ws) ({ frames := 0, cells := 0, slots := 0, locals := 0 } : Room)) (fun a U => a = #[(.ref a1)] ∧ Z.Warmed39 U.vm ∧ U.heap = h0) (fun _ _ _ _ _ => True) (fun _ U o U' => ∃ v L, o = .returned v ∧ QrmF1 Z a1 ta kx x0 h0 n0 v U'.heap L ∧ FrameEnd U o U' L ({ frames := 0, cells := 0, slots := 0, locals := 0 } : Room).cells ({ frames := 0, cells := 0, slots := 0, locals := 0 } : Room).slots) := by
  refine MetFree.of_bodySF (plainFor_of_name pn_1) hisR ?_
  intro p e s m args below meth c s₁ Bd hml0 hP hK
  obtain ⟨rfl, hZ, hh⟩ := hP
  have hx := Bd.exec
  have hby := Bd.bytes
  have hml : c.maxLocals = 7 := hml0
  have hown : s.vm.findClass "com/example/cranfield/cranfield/index/Postings" = some m.cls := findClass_of_methodNamed Bd.named
  have hnm := (name_of_methodNamed Bd.named Bd.method).1
  have X0 : Stand p l e ({ frames := 0, cells := 0, slots := 0, locals := 0 } : Room) s m #[(.ref a1)] below meth c s₁ [] 0 0 := Stand.of_body Bd
  have e0 : s₁.heap = h0 := by rw [← hh, Bd.state]; rfl
  have N0 := Fr.nil n0
  have pre0 : ∀ t_, Steps p.tables e below (s₁.setTop (mkF m 0 #[.val (.ref a1), .unset, .unset, .unset, .unset, .unset, .unset] [])) t_ → Steps p.tables e below (s₁.setTop (entryFrame m #[(.ref a1)] 7)) t_ := fun t_ k_ => castTop (ef_rmF1 m a1) k_
  obtain ⟨T101, X101, e101, st101⟩ := getF X0 hx hZ hown (host := "") (Or.inl (hw _ (List.mem_of_getElem? (i := 17) rfl))) Via.refl e0 F_c (g := (mkF m 3 #[.val (.ref a1), .val (.long (0 : Int64)), .second, .unset, .unset, .unset, .unset] [(.ref a1)])) rfl rfl (hb hby d4_3)
  obtain ⟨cl, Ar, -, Sz, Ng, Hs, -⟩ := V
  have hin0 : ¬ ((0 : Int32) < 0 ∨ cl.slots.size ≤ ((0 : Int32)).toNatClampNeg) := inb_of Sz ⟨by decide, by decide⟩
  have hat0 : cl.slots[((0 : Int32)).toNatClampNeg]? = some (.int x0) := Has.at Hs hin0 rfl
  have pre102 : ∀ t_, Steps p.tables e below (T101.setTop (mkF m 40 #[.val (.ref a1), .val (.long ((0 : Int64) + (x0.toInt64))), .second, .val (.ref ta), .val (.int (1 : Int32)), .val (.int ((0 : Int32) + (1 : Int32))), .val (.int x0)] [(.long ((0 : Int64) + (x0.toInt64)))])) t_ → Steps p.tables e below (s₁.setTop (entryFrame m #[(.ref a1)] 7)) t_ := fun t_ k_ => pre0 _ (by
    show Steps p.tables e below (s₁.setTop (mkF m 0 #[.val (.ref a1), .unset, .unset, .unset, .unset, .unset, .unset] [])) _
    refine XS.lconst X0.here hx rfl (hb hby d4_0) ?_
    show Steps p.tables e below (s₁.setTop (mkF m 1 #[.val (.ref a1), .unset, .unset, .unset, .unset, .unset, .unset] [(.long (0 : Int64))])) _
    refine XS.lstoreN X0.here hx rfl (hb hby d4_1) rfl (l' := #[.val (.ref a1), .val (.long (0 : Int64)), .second, .unset, .unset, .unset, .unset]) rfl ?_
    show Steps p.tables e below (s₁.setTop (mkF m 2 #[.val (.ref a1), .val (.long (0 : Int64)), .second, .unset, .unset, .unset, .unset] [])) _
    refine XS.aloadN X0.here hx rfl (hb hby d4_2) rfl rfl ?_
    show Steps p.tables e below (s₁.setTop (mkF m 3 #[.val (.ref a1), .val (.long (0 : Int64)), .second, .unset, .unset, .unset, .unset] [(.ref a1)])) _
    refine st101 _ ?_
    show Steps p.tables e below (T101.setTop (mkF m 6 #[.val (.ref a1), .val (.long (0 : Int64)), .second, .unset, .unset, .unset, .unset] [(.ref ta)])) _
    refine XS.astoreN X101.here hx rfl (hb hby d4_6) rfl rfl (l' := #[.val (.ref a1), .val (.long (0 : Int64)), .second, .val (.ref ta), .unset, .unset, .unset]) rfl ?_
    show Steps p.tables e below (T101.setTop (mkF m 7 #[.val (.ref a1), .val (.long (0 : Int64)), .second, .val (.ref ta), .unset, .unset, .unset] [])) _
    refine XS.aloadN X101.here hx rfl (hb hby d4_7) rfl rfl ?_
    show Steps p.tables e below (T101.setTop (mkF m 8 #[.val (.ref a1), .val (.long (0 : Int64)), .second, .val (.ref ta), .unset, .unset, .unset] [(.ref ta)])) _
    refine X101.arraylength hx (by rw [e101]; exact Ar.1) (State.isArrayOf_alike hZ.alike Ar.2.1) (g := (mkF m 8 #[.val (.ref a1), .val (.long (0 : Int64)), .second, .val (.ref ta), .unset, .unset, .unset] [(.ref ta)])) rfl rfl (hb hby d4_8) _ ?_
    rw [len_of Sz Ng]
    show Steps p.tables e below (T101.setTop (mkF m 9 #[.val (.ref a1), .val (.long (0 : Int64)), .second, .val (.ref ta), .unset, .unset, .unset] [(.int (1 : Int32))])) _
    refine XS.istore X101.here hx rfl (hb hby d4_9) rfl (l' := #[.val (.ref a1), .val (.long (0 : Int64)), .second, .val (.ref ta), .val (.int (1 : Int32)), .unset, .unset]) rfl ?_
    show Steps p.tables e below (T101.setTop (mkF m 11 #[.val (.ref a1), .val (.long (0 : Int64)), .second, .val (.ref ta), .val (.int (1 : Int32)), .unset, .unset] [])) _
    refine XS.iconst X101.here hx rfl (hb hby d4_11) ?_
    show Steps p.tables e below (T101.setTop (mkF m 12 #[.val (.ref a1), .val (.long (0 : Int64)), .second, .val (.ref ta), .val (.int (1 : Int32)), .unset, .unset] [(.int (0 : Int32))])) _
    refine XS.istore X101.here hx rfl (hb hby d4_12) rfl (l' := #[.val (.ref a1), .val (.long (0 : Int64)), .second, .val (.ref ta), .val (.int (1 : Int32)), .val (.int (0 : Int32)), .unset]) rfl ?_
    show Steps p.tables e below (T101.setTop (mkF m 14 #[.val (.ref a1), .val (.long (0 : Int64)), .second, .val (.ref ta), .val (.int (1 : Int32)), .val (.int (0 : Int32)), .unset] [])) _
    refine XS.iload X101.here hx rfl (hb hby d4_14) rfl ?_
    show Steps p.tables e below (T101.setTop (mkF m 16 #[.val (.ref a1), .val (.long (0 : Int64)), .second, .val (.ref ta), .val (.int (1 : Int32)), .val (.int (0 : Int32)), .unset] [(.int (0 : Int32))])) _
    refine XS.iload X101.here hx rfl (hb hby d4_16) rfl ?_
    show Steps p.tables e below (T101.setTop (mkF m 18 #[.val (.ref a1), .val (.long (0 : Int64)), .second, .val (.ref ta), .val (.int (1 : Int32)), .val (.int (0 : Int32)), .unset] [(.int (1 : Int32)), (.int (0 : Int32))])) _
    refine XS.icmpNo X101.here hx rfl (hb hby d4_18) rfl (tlt (by decide)).2.1 ?_
    show Steps p.tables e below (T101.setTop (mkF m 21 #[.val (.ref a1), .val (.long (0 : Int64)), .second, .val (.ref ta), .val (.int (1 : Int32)), .val (.int (0 : Int32)), .unset] [])) _
    refine XS.aloadN X101.here hx rfl (hb hby d4_21) rfl rfl ?_
    show Steps p.tables e below (T101.setTop (mkF m 22 #[.val (.ref a1), .val (.long (0 : Int64)), .second, .val (.ref ta), .val (.int (1 : Int32)), .val (.int (0 : Int32)), .unset] [(.ref ta)])) _
    refine XS.iload X101.here hx rfl (hb hby d4_22) rfl ?_
    show Steps p.tables e below (T101.setTop (mkF m 24 #[.val (.ref a1), .val (.long (0 : Int64)), .second, .val (.ref ta), .val (.int (1 : Int32)), .val (.int (0 : Int32)), .unset] [(.int (0 : Int32)), (.ref ta)])) _
    refine X101.iaload hx (j := (0 : Int32)) (v := (.int x0)) (by rw [e101]; exact Ar.1) (State.isArrayOf_alike hZ.alike Ar.2.1) Ar.2.2 hin0 hat0 (g := (mkF m 24 #[.val (.ref a1), .val (.long (0 : Int64)), .second, .val (.ref ta), .val (.int (1 : Int32)), .val (.int (0 : Int32)), .unset] [(.int (0 : Int32)), (.ref ta)])) rfl rfl (hb hby d4_24) _ ?_
    show Steps p.tables e below (T101.setTop (mkF m 25 #[.val (.ref a1), .val (.long (0 : Int64)), .second, .val (.ref ta), .val (.int (1 : Int32)), .val (.int (0 : Int32)), .unset] [(.int x0)])) _
    refine XS.istore X101.here hx rfl (hb hby d4_25) rfl (l' := #[.val (.ref a1), .val (.long (0 : Int64)), .second, .val (.ref ta), .val (.int (1 : Int32)), .val (.int (0 : Int32)), .val (.int x0)]) rfl ?_
    show Steps p.tables e below (T101.setTop (mkF m 27 #[.val (.ref a1), .val (.long (0 : Int64)), .second, .val (.ref ta), .val (.int (1 : Int32)), .val (.int (0 : Int32)), .val (.int x0)] [])) _
    refine XS.lloadN X101.here hx rfl (hb hby d4_27) rfl ?_
    show Steps p.tables e below (T101.setTop (mkF m 28 #[.val (.ref a1), .val (.long (0 : Int64)), .second, .val (.ref ta), .val (.int (1 : Int32)), .val (.int (0 : Int32)), .val (.int x0)] [(.long (0 : Int64))])) _
    refine XS.iload X101.here hx rfl (hb hby d4_28) rfl ?_
    show Steps p.tables e below (T101.setTop (mkF m 30 #[.val (.ref a1), .val (.long (0 : Int64)), .second, .val (.ref ta), .val (.int (1 : Int32)), .val (.int (0 : Int32)), .val (.int x0)] [(.int x0), (.long (0 : Int64))])) _
    refine XS.i2l X101.here hx rfl (hb hby d4_30) rfl ?_
    show Steps p.tables e below (T101.setTop (mkF m 31 #[.val (.ref a1), .val (.long (0 : Int64)), .second, .val (.ref ta), .val (.int (1 : Int32)), .val (.int (0 : Int32)), .val (.int x0)] [(.long (x0.toInt64)), (.long (0 : Int64))])) _
    refine XS.ladd X101.here hx rfl (hb hby d4_31) rfl ?_
    show Steps p.tables e below (T101.setTop (mkF m 32 #[.val (.ref a1), .val (.long (0 : Int64)), .second, .val (.ref ta), .val (.int (1 : Int32)), .val (.int (0 : Int32)), .val (.int x0)] [(.long ((0 : Int64) + (x0.toInt64)))])) _
    refine XS.lstoreN X101.here hx rfl (hb hby d4_32) rfl (l' := #[.val (.ref a1), .val (.long ((0 : Int64) + (x0.toInt64))), .second, .val (.ref ta), .val (.int (1 : Int32)), .val (.int (0 : Int32)), .val (.int x0)]) rfl ?_
    show Steps p.tables e below (T101.setTop (mkF m 33 #[.val (.ref a1), .val (.long ((0 : Int64) + (x0.toInt64))), .second, .val (.ref ta), .val (.int (1 : Int32)), .val (.int (0 : Int32)), .val (.int x0)] [])) _
    refine XS.iinc X101.here hx rfl (hb hby d4_33) rfl (l' := #[.val (.ref a1), .val (.long ((0 : Int64) + (x0.toInt64))), .second, .val (.ref ta), .val (.int (1 : Int32)), .val (.int ((0 : Int32) + (1 : Int32))), .val (.int x0)]) rfl ?_
    show Steps p.tables e below (T101.setTop (mkF m 36 #[.val (.ref a1), .val (.long ((0 : Int64) + (x0.toInt64))), .second, .val (.ref ta), .val (.int (1 : Int32)), .val (.int ((0 : Int32) + (1 : Int32))), .val (.int x0)] [])) _
    refine XS.goto X101.here hx rfl (pc0 := 36) (pc' := 14) rfl (hb hby d4_36) (by decide) (by decide) ?_
    show Steps p.tables e below (T101.setTop (mkF m 14 #[.val (.ref a1), .val (.long ((0 : Int64) + (x0.toInt64))), .second, .val (.ref ta), .val (.int (1 : Int32)), .val (.int ((0 : Int32) + (1 : Int32))), .val (.int x0)] [])) _
    refine XS.iload X101.here hx rfl (hb hby d4_14) rfl ?_
    show Steps p.tables e below (T101.setTop (mkF m 16 #[.val (.ref a1), .val (.long ((0 : Int64) + (x0.toInt64))), .second, .val (.ref ta), .val (.int (1 : Int32)), .val (.int ((0 : Int32) + (1 : Int32))), .val (.int x0)] [(.int ((0 : Int32) + (1 : Int32)))])) _
    refine XS.iload X101.here hx rfl (hb hby d4_16) rfl ?_
    show Steps p.tables e below (T101.setTop (mkF m 18 #[.val (.ref a1), .val (.long ((0 : Int64) + (x0.toInt64))), .second, .val (.ref ta), .val (.int (1 : Int32)), .val (.int ((0 : Int32) + (1 : Int32))), .val (.int x0)] [(.int (1 : Int32)), (.int ((0 : Int32) + (1 : Int32)))])) _
    refine XS.icmpYes X101.here hx rfl (pc0 := 18) (pc' := 39) rfl (hb hby d4_18) rfl (flt (by decide)).2.1 (by decide) (by decide) ?_
    show Steps p.tables e below (T101.setTop (mkF m 39 #[.val (.ref a1), .val (.long ((0 : Int64) + (x0.toInt64))), .second, .val (.ref ta), .val (.int (1 : Int32)), .val (.int ((0 : Int32) + (1 : Int32))), .val (.int x0)] [])) _
    refine XS.lloadN X101.here hx rfl (hb hby d4_39) rfl ?_
    exact k_)
  obtain ⟨fs, hr, hrun, hended, hW, hsame⟩ := X101.leave (v := some (.long ((0 : Int64) + (x0.toInt64)))) (fun h => by rw [Bd.returns] at h; cases h)
  refine ⟨_, _, pre102 _ ?_, hrun, hended, _, _, rfl, ?_, ⟨_, rfl⟩, hW, hsame.mono (by decide) (by decide)⟩
  · show Steps p.tables e below (T101.setTop (mkF m 40 #[.val (.ref a1), .val (.long ((0 : Int64) + (x0.toInt64))), .second, .val (.ref ta), .val (.int (1 : Int32)), .val (.int ((0 : Int32) + (1 : Int32))), .val (.int x0)] [(.long ((0 : Int64) + (x0.toInt64)))])) _
    exact retJ X101 hx Bd.returns (hb hby d4_40) hr
  · show QrmF1 Z a1 ta kx x0 h0 n0 _ T101.heap _
    rw [e101]
    exact ⟨rfl, N0, rfl⟩
theorem ef_rmF2 (m : MethodId) (x0 : Addr) : entryFrame m #[(.ref x0)] 7 = mkF m 0 #[.val (.ref x0), .unset, .unset, .unset, .unset, .unset, .unset] [] := by first | (simp [entryFrame, mkF, argsToLocals, Value.category]; done) | rfl
def QrmF2 (Z : State) (a1 : Addr) (ta : Addr) (kx : ClassId) (x0 : Int32) (x1 : Int32) (h0 : Heap) (n0 : Nat) (v : Option Value) (h : Heap) (L : List Loc) : Prop := v = some (.long (((0 : Int64) + (x0.toInt64)) + (x1.toInt64))) ∧ Fr n0 L ∧ h = h0
set_option maxRecDepth 65536 in
set_option maxHeartbeats 40000000 in
theorem rmF2 (l : Launch) (Z : State) (a0 : Array Value) (hw : ∀ d ∈ tables_1, d.before a0 Z = true) (ws : List Jvm.Cond) (a1 : Addr) (ta : Addr) (kx : ClassId) (x0 : Int32) (x1 : Int32) (h0 : Heap) (n0 : Nat) (Z0 : n0 ≤ h0.size) (F_c : Fld Z h0 a1 "com/example/cranfield/cranfield/index/Postings" "counts" "[I" (.ref ta)) (V : Arv Z h0 ta kx .int (2 : Int32) [(.int x0), (.int x1)] (.int (0 : Int32))) :
    MetFree l (⟨"com/example/cranfield/cranfield/index/Postings", "collectionFrequency", "()J"⟩ : MethodName) (head1 (Jvm.Cond.code (⟨"com/example/cranfield/cranfield/index/Postings", "collectionFrequency", "()J"⟩ : MethodName) prog_31_method_3_code 7 (some .long) :: ws) ({ frames := 0, cells := 0, slots := 0, locals := 0 } : Room)) (fun a U => a = #[(.ref a1)] ∧ Z.Warmed39 U.vm ∧ U.heap = h0) (fun _ _ _ _ _ => True) (fun _ U o U' => ∃ v L, o = .returned v ∧ QrmF2 Z a1 ta kx x0 x1 h0 n0 v U'.heap L ∧ FrameEnd U o U' L ({ frames := 0, cells := 0, slots := 0, locals := 0 } : Room).cells ({ frames := 0, cells := 0, slots := 0, locals := 0 } : Room).slots) := by
  refine MetFree.of_bodySF (plainFor_of_name pn_1) hisR ?_
  intro p e s m args below meth c s₁ Bd hml0 hP hK
  obtain ⟨rfl, hZ, hh⟩ := hP
  have hx := Bd.exec
  have hby := Bd.bytes
  have hml : c.maxLocals = 7 := hml0
  have hown : s.vm.findClass "com/example/cranfield/cranfield/index/Postings" = some m.cls := findClass_of_methodNamed Bd.named
  have hnm := (name_of_methodNamed Bd.named Bd.method).1
  have X0 : Stand p l e ({ frames := 0, cells := 0, slots := 0, locals := 0 } : Room) s m #[(.ref a1)] below meth c s₁ [] 0 0 := Stand.of_body Bd
  have e0 : s₁.heap = h0 := by rw [← hh, Bd.state]; rfl
  have N0 := Fr.nil n0
  have pre0 : ∀ t_, Steps p.tables e below (s₁.setTop (mkF m 0 #[.val (.ref a1), .unset, .unset, .unset, .unset, .unset, .unset] [])) t_ → Steps p.tables e below (s₁.setTop (entryFrame m #[(.ref a1)] 7)) t_ := fun t_ k_ => castTop (ef_rmF2 m a1) k_
  obtain ⟨T101, X101, e101, st101⟩ := getF X0 hx hZ hown (host := "") (Or.inl (hw _ (List.mem_of_getElem? (i := 17) rfl))) Via.refl e0 F_c (g := (mkF m 3 #[.val (.ref a1), .val (.long (0 : Int64)), .second, .unset, .unset, .unset, .unset] [(.ref a1)])) rfl rfl (hb hby d4_3)
  obtain ⟨cl, Ar, -, Sz, Ng, Hs, -⟩ := V
  have hin0 : ¬ ((0 : Int32) < 0 ∨ cl.slots.size ≤ ((0 : Int32)).toNatClampNeg) := inb_of Sz ⟨by decide, by decide⟩
  have hat0 : cl.slots[((0 : Int32)).toNatClampNeg]? = some (.int x0) := Has.at Hs hin0 rfl
  have hin1 : ¬ (((0 : Int32) + (1 : Int32)) < 0 ∨ cl.slots.size ≤ (((0 : Int32) + (1 : Int32))).toNatClampNeg) := inb_of Sz ⟨by decide, by decide⟩
  have hat1 : cl.slots[(((0 : Int32) + (1 : Int32))).toNatClampNeg]? = some (.int x1) := Has.at Hs hin1 rfl
  have pre102 : ∀ t_, Steps p.tables e below (T101.setTop (mkF m 40 #[.val (.ref a1), .val (.long (((0 : Int64) + (x0.toInt64)) + (x1.toInt64))), .second, .val (.ref ta), .val (.int (2 : Int32)), .val (.int (((0 : Int32) + (1 : Int32)) + (1 : Int32))), .val (.int x1)] [(.long (((0 : Int64) + (x0.toInt64)) + (x1.toInt64)))])) t_ → Steps p.tables e below (s₁.setTop (entryFrame m #[(.ref a1)] 7)) t_ := fun t_ k_ => pre0 _ (by
    show Steps p.tables e below (s₁.setTop (mkF m 0 #[.val (.ref a1), .unset, .unset, .unset, .unset, .unset, .unset] [])) _
    refine XS.lconst X0.here hx rfl (hb hby d4_0) ?_
    show Steps p.tables e below (s₁.setTop (mkF m 1 #[.val (.ref a1), .unset, .unset, .unset, .unset, .unset, .unset] [(.long (0 : Int64))])) _
    refine XS.lstoreN X0.here hx rfl (hb hby d4_1) rfl (l' := #[.val (.ref a1), .val (.long (0 : Int64)), .second, .unset, .unset, .unset, .unset]) rfl ?_
    show Steps p.tables e below (s₁.setTop (mkF m 2 #[.val (.ref a1), .val (.long (0 : Int64)), .second, .unset, .unset, .unset, .unset] [])) _
    refine XS.aloadN X0.here hx rfl (hb hby d4_2) rfl rfl ?_
    show Steps p.tables e below (s₁.setTop (mkF m 3 #[.val (.ref a1), .val (.long (0 : Int64)), .second, .unset, .unset, .unset, .unset] [(.ref a1)])) _
    refine st101 _ ?_
    show Steps p.tables e below (T101.setTop (mkF m 6 #[.val (.ref a1), .val (.long (0 : Int64)), .second, .unset, .unset, .unset, .unset] [(.ref ta)])) _
    refine XS.astoreN X101.here hx rfl (hb hby d4_6) rfl rfl (l' := #[.val (.ref a1), .val (.long (0 : Int64)), .second, .val (.ref ta), .unset, .unset, .unset]) rfl ?_
    show Steps p.tables e below (T101.setTop (mkF m 7 #[.val (.ref a1), .val (.long (0 : Int64)), .second, .val (.ref ta), .unset, .unset, .unset] [])) _
    refine XS.aloadN X101.here hx rfl (hb hby d4_7) rfl rfl ?_
    show Steps p.tables e below (T101.setTop (mkF m 8 #[.val (.ref a1), .val (.long (0 : Int64)), .second, .val (.ref ta), .unset, .unset, .unset] [(.ref ta)])) _
    refine X101.arraylength hx (by rw [e101]; exact Ar.1) (State.isArrayOf_alike hZ.alike Ar.2.1) (g := (mkF m 8 #[.val (.ref a1), .val (.long (0 : Int64)), .second, .val (.ref ta), .unset, .unset, .unset] [(.ref ta)])) rfl rfl (hb hby d4_8) _ ?_
    rw [len_of Sz Ng]
    show Steps p.tables e below (T101.setTop (mkF m 9 #[.val (.ref a1), .val (.long (0 : Int64)), .second, .val (.ref ta), .unset, .unset, .unset] [(.int (2 : Int32))])) _
    refine XS.istore X101.here hx rfl (hb hby d4_9) rfl (l' := #[.val (.ref a1), .val (.long (0 : Int64)), .second, .val (.ref ta), .val (.int (2 : Int32)), .unset, .unset]) rfl ?_
    show Steps p.tables e below (T101.setTop (mkF m 11 #[.val (.ref a1), .val (.long (0 : Int64)), .second, .val (.ref ta), .val (.int (2 : Int32)), .unset, .unset] [])) _
    refine XS.iconst X101.here hx rfl (hb hby d4_11) ?_
    show Steps p.tables e below (T101.setTop (mkF m 12 #[.val (.ref a1), .val (.long (0 : Int64)), .second, .val (.ref ta), .val (.int (2 : Int32)), .unset, .unset] [(.int (0 : Int32))])) _
    refine XS.istore X101.here hx rfl (hb hby d4_12) rfl (l' := #[.val (.ref a1), .val (.long (0 : Int64)), .second, .val (.ref ta), .val (.int (2 : Int32)), .val (.int (0 : Int32)), .unset]) rfl ?_
    show Steps p.tables e below (T101.setTop (mkF m 14 #[.val (.ref a1), .val (.long (0 : Int64)), .second, .val (.ref ta), .val (.int (2 : Int32)), .val (.int (0 : Int32)), .unset] [])) _
    refine XS.iload X101.here hx rfl (hb hby d4_14) rfl ?_
    show Steps p.tables e below (T101.setTop (mkF m 16 #[.val (.ref a1), .val (.long (0 : Int64)), .second, .val (.ref ta), .val (.int (2 : Int32)), .val (.int (0 : Int32)), .unset] [(.int (0 : Int32))])) _
    refine XS.iload X101.here hx rfl (hb hby d4_16) rfl ?_
    show Steps p.tables e below (T101.setTop (mkF m 18 #[.val (.ref a1), .val (.long (0 : Int64)), .second, .val (.ref ta), .val (.int (2 : Int32)), .val (.int (0 : Int32)), .unset] [(.int (2 : Int32)), (.int (0 : Int32))])) _
    refine XS.icmpNo X101.here hx rfl (hb hby d4_18) rfl (tlt (by decide)).2.1 ?_
    show Steps p.tables e below (T101.setTop (mkF m 21 #[.val (.ref a1), .val (.long (0 : Int64)), .second, .val (.ref ta), .val (.int (2 : Int32)), .val (.int (0 : Int32)), .unset] [])) _
    refine XS.aloadN X101.here hx rfl (hb hby d4_21) rfl rfl ?_
    show Steps p.tables e below (T101.setTop (mkF m 22 #[.val (.ref a1), .val (.long (0 : Int64)), .second, .val (.ref ta), .val (.int (2 : Int32)), .val (.int (0 : Int32)), .unset] [(.ref ta)])) _
    refine XS.iload X101.here hx rfl (hb hby d4_22) rfl ?_
    show Steps p.tables e below (T101.setTop (mkF m 24 #[.val (.ref a1), .val (.long (0 : Int64)), .second, .val (.ref ta), .val (.int (2 : Int32)), .val (.int (0 : Int32)), .unset] [(.int (0 : Int32)), (.ref ta)])) _
    refine X101.iaload hx (j := (0 : Int32)) (v := (.int x0)) (by rw [e101]; exact Ar.1) (State.isArrayOf_alike hZ.alike Ar.2.1) Ar.2.2 hin0 hat0 (g := (mkF m 24 #[.val (.ref a1), .val (.long (0 : Int64)), .second, .val (.ref ta), .val (.int (2 : Int32)), .val (.int (0 : Int32)), .unset] [(.int (0 : Int32)), (.ref ta)])) rfl rfl (hb hby d4_24) _ ?_
    show Steps p.tables e below (T101.setTop (mkF m 25 #[.val (.ref a1), .val (.long (0 : Int64)), .second, .val (.ref ta), .val (.int (2 : Int32)), .val (.int (0 : Int32)), .unset] [(.int x0)])) _
    refine XS.istore X101.here hx rfl (hb hby d4_25) rfl (l' := #[.val (.ref a1), .val (.long (0 : Int64)), .second, .val (.ref ta), .val (.int (2 : Int32)), .val (.int (0 : Int32)), .val (.int x0)]) rfl ?_
    show Steps p.tables e below (T101.setTop (mkF m 27 #[.val (.ref a1), .val (.long (0 : Int64)), .second, .val (.ref ta), .val (.int (2 : Int32)), .val (.int (0 : Int32)), .val (.int x0)] [])) _
    refine XS.lloadN X101.here hx rfl (hb hby d4_27) rfl ?_
    show Steps p.tables e below (T101.setTop (mkF m 28 #[.val (.ref a1), .val (.long (0 : Int64)), .second, .val (.ref ta), .val (.int (2 : Int32)), .val (.int (0 : Int32)), .val (.int x0)] [(.long (0 : Int64))])) _
    refine XS.iload X101.here hx rfl (hb hby d4_28) rfl ?_
    show Steps p.tables e below (T101.setTop (mkF m 30 #[.val (.ref a1), .val (.long (0 : Int64)), .second, .val (.ref ta), .val (.int (2 : Int32)), .val (.int (0 : Int32)), .val (.int x0)] [(.int x0), (.long (0 : Int64))])) _
    refine XS.i2l X101.here hx rfl (hb hby d4_30) rfl ?_
    show Steps p.tables e below (T101.setTop (mkF m 31 #[.val (.ref a1), .val (.long (0 : Int64)), .second, .val (.ref ta), .val (.int (2 : Int32)), .val (.int (0 : Int32)), .val (.int x0)] [(.long (x0.toInt64)), (.long (0 : Int64))])) _
    refine XS.ladd X101.here hx rfl (hb hby d4_31) rfl ?_
    show Steps p.tables e below (T101.setTop (mkF m 32 #[.val (.ref a1), .val (.long (0 : Int64)), .second, .val (.ref ta), .val (.int (2 : Int32)), .val (.int (0 : Int32)), .val (.int x0)] [(.long ((0 : Int64) + (x0.toInt64)))])) _
    refine XS.lstoreN X101.here hx rfl (hb hby d4_32) rfl (l' := #[.val (.ref a1), .val (.long ((0 : Int64) + (x0.toInt64))), .second, .val (.ref ta), .val (.int (2 : Int32)), .val (.int (0 : Int32)), .val (.int x0)]) rfl ?_
    show Steps p.tables e below (T101.setTop (mkF m 33 #[.val (.ref a1), .val (.long ((0 : Int64) + (x0.toInt64))), .second, .val (.ref ta), .val (.int (2 : Int32)), .val (.int (0 : Int32)), .val (.int x0)] [])) _
    refine XS.iinc X101.here hx rfl (hb hby d4_33) rfl (l' := #[.val (.ref a1), .val (.long ((0 : Int64) + (x0.toInt64))), .second, .val (.ref ta), .val (.int (2 : Int32)), .val (.int ((0 : Int32) + (1 : Int32))), .val (.int x0)]) rfl ?_
    show Steps p.tables e below (T101.setTop (mkF m 36 #[.val (.ref a1), .val (.long ((0 : Int64) + (x0.toInt64))), .second, .val (.ref ta), .val (.int (2 : Int32)), .val (.int ((0 : Int32) + (1 : Int32))), .val (.int x0)] [])) _
    refine XS.goto X101.here hx rfl (pc0 := 36) (pc' := 14) rfl (hb hby d4_36) (by decide) (by decide) ?_
    show Steps p.tables e below (T101.setTop (mkF m 14 #[.val (.ref a1), .val (.long ((0 : Int64) + (x0.toInt64))), .second, .val (.ref ta), .val (.int (2 : Int32)), .val (.int ((0 : Int32) + (1 : Int32))), .val (.int x0)] [])) _
    refine XS.iload X101.here hx rfl (hb hby d4_14) rfl ?_
    show Steps p.tables e below (T101.setTop (mkF m 16 #[.val (.ref a1), .val (.long ((0 : Int64) + (x0.toInt64))), .second, .val (.ref ta), .val (.int (2 : Int32)), .val (.int ((0 : Int32) + (1 : Int32))), .val (.int x0)] [(.int ((0 : Int32) + (1 : Int32)))])) _
    refine XS.iload X101.here hx rfl (hb hby d4_16) rfl ?_
    show Steps p.tables e below (T101.setTop (mkF m 18 #[.val (.ref a1), .val (.long ((0 : Int64) + (x0.toInt64))), .second, .val (.ref ta), .val (.int (2 : Int32)), .val (.int ((0 : Int32) + (1 : Int32))), .val (.int x0)] [(.int (2 : Int32)), (.int ((0 : Int32) + (1 : Int32)))])) _
    refine XS.icmpNo X101.here hx rfl (hb hby d4_18) rfl (tlt (by decide)).2.1 ?_
    show Steps p.tables e below (T101.setTop (mkF m 21 #[.val (.ref a1), .val (.long ((0 : Int64) + (x0.toInt64))), .second, .val (.ref ta), .val (.int (2 : Int32)), .val (.int ((0 : Int32) + (1 : Int32))), .val (.int x0)] [])) _
    refine XS.aloadN X101.here hx rfl (hb hby d4_21) rfl rfl ?_
    show Steps p.tables e below (T101.setTop (mkF m 22 #[.val (.ref a1), .val (.long ((0 : Int64) + (x0.toInt64))), .second, .val (.ref ta), .val (.int (2 : Int32)), .val (.int ((0 : Int32) + (1 : Int32))), .val (.int x0)] [(.ref ta)])) _
    refine XS.iload X101.here hx rfl (hb hby d4_22) rfl ?_
    show Steps p.tables e below (T101.setTop (mkF m 24 #[.val (.ref a1), .val (.long ((0 : Int64) + (x0.toInt64))), .second, .val (.ref ta), .val (.int (2 : Int32)), .val (.int ((0 : Int32) + (1 : Int32))), .val (.int x0)] [(.int ((0 : Int32) + (1 : Int32))), (.ref ta)])) _
    refine X101.iaload hx (j := ((0 : Int32) + (1 : Int32))) (v := (.int x1)) (by rw [e101]; exact Ar.1) (State.isArrayOf_alike hZ.alike Ar.2.1) Ar.2.2 hin1 hat1 (g := (mkF m 24 #[.val (.ref a1), .val (.long ((0 : Int64) + (x0.toInt64))), .second, .val (.ref ta), .val (.int (2 : Int32)), .val (.int ((0 : Int32) + (1 : Int32))), .val (.int x0)] [(.int ((0 : Int32) + (1 : Int32))), (.ref ta)])) rfl rfl (hb hby d4_24) _ ?_
    show Steps p.tables e below (T101.setTop (mkF m 25 #[.val (.ref a1), .val (.long ((0 : Int64) + (x0.toInt64))), .second, .val (.ref ta), .val (.int (2 : Int32)), .val (.int ((0 : Int32) + (1 : Int32))), .val (.int x0)] [(.int x1)])) _
    refine XS.istore X101.here hx rfl (hb hby d4_25) rfl (l' := #[.val (.ref a1), .val (.long ((0 : Int64) + (x0.toInt64))), .second, .val (.ref ta), .val (.int (2 : Int32)), .val (.int ((0 : Int32) + (1 : Int32))), .val (.int x1)]) rfl ?_
    show Steps p.tables e below (T101.setTop (mkF m 27 #[.val (.ref a1), .val (.long ((0 : Int64) + (x0.toInt64))), .second, .val (.ref ta), .val (.int (2 : Int32)), .val (.int ((0 : Int32) + (1 : Int32))), .val (.int x1)] [])) _
    refine XS.lloadN X101.here hx rfl (hb hby d4_27) rfl ?_
    show Steps p.tables e below (T101.setTop (mkF m 28 #[.val (.ref a1), .val (.long ((0 : Int64) + (x0.toInt64))), .second, .val (.ref ta), .val (.int (2 : Int32)), .val (.int ((0 : Int32) + (1 : Int32))), .val (.int x1)] [(.long ((0 : Int64) + (x0.toInt64)))])) _
    refine XS.iload X101.here hx rfl (hb hby d4_28) rfl ?_
    show Steps p.tables e below (T101.setTop (mkF m 30 #[.val (.ref a1), .val (.long ((0 : Int64) + (x0.toInt64))), .second, .val (.ref ta), .val (.int (2 : Int32)), .val (.int ((0 : Int32) + (1 : Int32))), .val (.int x1)] [(.int x1), (.long ((0 : Int64) + (x0.toInt64)))])) _
    refine XS.i2l X101.here hx rfl (hb hby d4_30) rfl ?_
    show Steps p.tables e below (T101.setTop (mkF m 31 #[.val (.ref a1), .val (.long ((0 : Int64) + (x0.toInt64))), .second, .val (.ref ta), .val (.int (2 : Int32)), .val (.int ((0 : Int32) + (1 : Int32))), .val (.int x1)] [(.long (x1.toInt64)), (.long ((0 : Int64) + (x0.toInt64)))])) _
    refine XS.ladd X101.here hx rfl (hb hby d4_31) rfl ?_
    show Steps p.tables e below (T101.setTop (mkF m 32 #[.val (.ref a1), .val (.long ((0 : Int64) + (x0.toInt64))), .second, .val (.ref ta), .val (.int (2 : Int32)), .val (.int ((0 : Int32) + (1 : Int32))), .val (.int x1)] [(.long (((0 : Int64) + (x0.toInt64)) + (x1.toInt64)))])) _
    refine XS.lstoreN X101.here hx rfl (hb hby d4_32) rfl (l' := #[.val (.ref a1), .val (.long (((0 : Int64) + (x0.toInt64)) + (x1.toInt64))), .second, .val (.ref ta), .val (.int (2 : Int32)), .val (.int ((0 : Int32) + (1 : Int32))), .val (.int x1)]) rfl ?_
    show Steps p.tables e below (T101.setTop (mkF m 33 #[.val (.ref a1), .val (.long (((0 : Int64) + (x0.toInt64)) + (x1.toInt64))), .second, .val (.ref ta), .val (.int (2 : Int32)), .val (.int ((0 : Int32) + (1 : Int32))), .val (.int x1)] [])) _
    refine XS.iinc X101.here hx rfl (hb hby d4_33) rfl (l' := #[.val (.ref a1), .val (.long (((0 : Int64) + (x0.toInt64)) + (x1.toInt64))), .second, .val (.ref ta), .val (.int (2 : Int32)), .val (.int (((0 : Int32) + (1 : Int32)) + (1 : Int32))), .val (.int x1)]) rfl ?_
    show Steps p.tables e below (T101.setTop (mkF m 36 #[.val (.ref a1), .val (.long (((0 : Int64) + (x0.toInt64)) + (x1.toInt64))), .second, .val (.ref ta), .val (.int (2 : Int32)), .val (.int (((0 : Int32) + (1 : Int32)) + (1 : Int32))), .val (.int x1)] [])) _
    refine XS.goto X101.here hx rfl (pc0 := 36) (pc' := 14) rfl (hb hby d4_36) (by decide) (by decide) ?_
    show Steps p.tables e below (T101.setTop (mkF m 14 #[.val (.ref a1), .val (.long (((0 : Int64) + (x0.toInt64)) + (x1.toInt64))), .second, .val (.ref ta), .val (.int (2 : Int32)), .val (.int (((0 : Int32) + (1 : Int32)) + (1 : Int32))), .val (.int x1)] [])) _
    refine XS.iload X101.here hx rfl (hb hby d4_14) rfl ?_
    show Steps p.tables e below (T101.setTop (mkF m 16 #[.val (.ref a1), .val (.long (((0 : Int64) + (x0.toInt64)) + (x1.toInt64))), .second, .val (.ref ta), .val (.int (2 : Int32)), .val (.int (((0 : Int32) + (1 : Int32)) + (1 : Int32))), .val (.int x1)] [(.int (((0 : Int32) + (1 : Int32)) + (1 : Int32)))])) _
    refine XS.iload X101.here hx rfl (hb hby d4_16) rfl ?_
    show Steps p.tables e below (T101.setTop (mkF m 18 #[.val (.ref a1), .val (.long (((0 : Int64) + (x0.toInt64)) + (x1.toInt64))), .second, .val (.ref ta), .val (.int (2 : Int32)), .val (.int (((0 : Int32) + (1 : Int32)) + (1 : Int32))), .val (.int x1)] [(.int (2 : Int32)), (.int (((0 : Int32) + (1 : Int32)) + (1 : Int32)))])) _
    refine XS.icmpYes X101.here hx rfl (pc0 := 18) (pc' := 39) rfl (hb hby d4_18) rfl (flt (by decide)).2.1 (by decide) (by decide) ?_
    show Steps p.tables e below (T101.setTop (mkF m 39 #[.val (.ref a1), .val (.long (((0 : Int64) + (x0.toInt64)) + (x1.toInt64))), .second, .val (.ref ta), .val (.int (2 : Int32)), .val (.int (((0 : Int32) + (1 : Int32)) + (1 : Int32))), .val (.int x1)] [])) _
    refine XS.lloadN X101.here hx rfl (hb hby d4_39) rfl ?_
    exact k_)
  obtain ⟨fs, hr, hrun, hended, hW, hsame⟩ := X101.leave (v := some (.long (((0 : Int64) + (x0.toInt64)) + (x1.toInt64)))) (fun h => by rw [Bd.returns] at h; cases h)
  refine ⟨_, _, pre102 _ ?_, hrun, hended, _, _, rfl, ?_, ⟨_, rfl⟩, hW, hsame.mono (by decide) (by decide)⟩
  · show Steps p.tables e below (T101.setTop (mkF m 40 #[.val (.ref a1), .val (.long (((0 : Int64) + (x0.toInt64)) + (x1.toInt64))), .second, .val (.ref ta), .val (.int (2 : Int32)), .val (.int (((0 : Int32) + (1 : Int32)) + (1 : Int32))), .val (.int x1)] [(.long (((0 : Int64) + (x0.toInt64)) + (x1.toInt64)))])) _
    exact retJ X101 hx Bd.returns (hb hby d4_40) hr
  · show QrmF2 Z a1 ta kx x0 x1 h0 n0 _ T101.heap _
    rw [e101]
    exact ⟨rfl, N0, rfl⟩
theorem ef_rmF3 (m : MethodId) (x0 : Addr) : entryFrame m #[(.ref x0)] 7 = mkF m 0 #[.val (.ref x0), .unset, .unset, .unset, .unset, .unset, .unset] [] := by first | (simp [entryFrame, mkF, argsToLocals, Value.category]; done) | rfl
def QrmF3 (Z : State) (a1 : Addr) (ta : Addr) (kx : ClassId) (x0 : Int32) (x1 : Int32) (x2 : Int32) (h0 : Heap) (n0 : Nat) (v : Option Value) (h : Heap) (L : List Loc) : Prop := v = some (.long ((((0 : Int64) + (x0.toInt64)) + (x1.toInt64)) + (x2.toInt64))) ∧ Fr n0 L ∧ h = h0
set_option maxRecDepth 65536 in
set_option maxHeartbeats 40000000 in
theorem rmF3 (l : Launch) (Z : State) (a0 : Array Value) (hw : ∀ d ∈ tables_1, d.before a0 Z = true) (ws : List Jvm.Cond) (a1 : Addr) (ta : Addr) (kx : ClassId) (x0 : Int32) (x1 : Int32) (x2 : Int32) (h0 : Heap) (n0 : Nat) (Z0 : n0 ≤ h0.size) (F_c : Fld Z h0 a1 "com/example/cranfield/cranfield/index/Postings" "counts" "[I" (.ref ta)) (V : Arv Z h0 ta kx .int (3 : Int32) [(.int x0), (.int x1), (.int x2)] (.int (0 : Int32))) :
    MetFree l (⟨"com/example/cranfield/cranfield/index/Postings", "collectionFrequency", "()J"⟩ : MethodName) (head1 (Jvm.Cond.code (⟨"com/example/cranfield/cranfield/index/Postings", "collectionFrequency", "()J"⟩ : MethodName) prog_31_method_3_code 7 (some .long) :: ws) ({ frames := 0, cells := 0, slots := 0, locals := 0 } : Room)) (fun a U => a = #[(.ref a1)] ∧ Z.Warmed39 U.vm ∧ U.heap = h0) (fun _ _ _ _ _ => True) (fun _ U o U' => ∃ v L, o = .returned v ∧ QrmF3 Z a1 ta kx x0 x1 x2 h0 n0 v U'.heap L ∧ FrameEnd U o U' L ({ frames := 0, cells := 0, slots := 0, locals := 0 } : Room).cells ({ frames := 0, cells := 0, slots := 0, locals := 0 } : Room).slots) := by
  refine MetFree.of_bodySF (plainFor_of_name pn_1) hisR ?_
  intro p e s m args below meth c s₁ Bd hml0 hP hK
  obtain ⟨rfl, hZ, hh⟩ := hP
  have hx := Bd.exec
  have hby := Bd.bytes
  have hml : c.maxLocals = 7 := hml0
  have hown : s.vm.findClass "com/example/cranfield/cranfield/index/Postings" = some m.cls := findClass_of_methodNamed Bd.named
  have hnm := (name_of_methodNamed Bd.named Bd.method).1
  have X0 : Stand p l e ({ frames := 0, cells := 0, slots := 0, locals := 0 } : Room) s m #[(.ref a1)] below meth c s₁ [] 0 0 := Stand.of_body Bd
  have e0 : s₁.heap = h0 := by rw [← hh, Bd.state]; rfl
  have N0 := Fr.nil n0
  have pre0 : ∀ t_, Steps p.tables e below (s₁.setTop (mkF m 0 #[.val (.ref a1), .unset, .unset, .unset, .unset, .unset, .unset] [])) t_ → Steps p.tables e below (s₁.setTop (entryFrame m #[(.ref a1)] 7)) t_ := fun t_ k_ => castTop (ef_rmF3 m a1) k_
  obtain ⟨T101, X101, e101, st101⟩ := getF X0 hx hZ hown (host := "") (Or.inl (hw _ (List.mem_of_getElem? (i := 17) rfl))) Via.refl e0 F_c (g := (mkF m 3 #[.val (.ref a1), .val (.long (0 : Int64)), .second, .unset, .unset, .unset, .unset] [(.ref a1)])) rfl rfl (hb hby d4_3)
  obtain ⟨cl, Ar, -, Sz, Ng, Hs, -⟩ := V
  have hin0 : ¬ ((0 : Int32) < 0 ∨ cl.slots.size ≤ ((0 : Int32)).toNatClampNeg) := inb_of Sz ⟨by decide, by decide⟩
  have hat0 : cl.slots[((0 : Int32)).toNatClampNeg]? = some (.int x0) := Has.at Hs hin0 rfl
  have hin1 : ¬ (((0 : Int32) + (1 : Int32)) < 0 ∨ cl.slots.size ≤ (((0 : Int32) + (1 : Int32))).toNatClampNeg) := inb_of Sz ⟨by decide, by decide⟩
  have hat1 : cl.slots[(((0 : Int32) + (1 : Int32))).toNatClampNeg]? = some (.int x1) := Has.at Hs hin1 rfl
  have hin2 : ¬ ((((0 : Int32) + (1 : Int32)) + (1 : Int32)) < 0 ∨ cl.slots.size ≤ ((((0 : Int32) + (1 : Int32)) + (1 : Int32))).toNatClampNeg) := inb_of Sz ⟨by decide, by decide⟩
  have hat2 : cl.slots[((((0 : Int32) + (1 : Int32)) + (1 : Int32))).toNatClampNeg]? = some (.int x2) := Has.at Hs hin2 rfl
  have pre102 : ∀ t_, Steps p.tables e below (T101.setTop (mkF m 40 #[.val (.ref a1), .val (.long ((((0 : Int64) + (x0.toInt64)) + (x1.toInt64)) + (x2.toInt64))), .second, .val (.ref ta), .val (.int (3 : Int32)), .val (.int ((((0 : Int32) + (1 : Int32)) + (1 : Int32)) + (1 : Int32))), .val (.int x2)] [(.long ((((0 : Int64) + (x0.toInt64)) + (x1.toInt64)) + (x2.toInt64)))])) t_ → Steps p.tables e below (s₁.setTop (entryFrame m #[(.ref a1)] 7)) t_ := fun t_ k_ => pre0 _ (by
    show Steps p.tables e below (s₁.setTop (mkF m 0 #[.val (.ref a1), .unset, .unset, .unset, .unset, .unset, .unset] [])) _
    refine XS.lconst X0.here hx rfl (hb hby d4_0) ?_
    show Steps p.tables e below (s₁.setTop (mkF m 1 #[.val (.ref a1), .unset, .unset, .unset, .unset, .unset, .unset] [(.long (0 : Int64))])) _
    refine XS.lstoreN X0.here hx rfl (hb hby d4_1) rfl (l' := #[.val (.ref a1), .val (.long (0 : Int64)), .second, .unset, .unset, .unset, .unset]) rfl ?_
    show Steps p.tables e below (s₁.setTop (mkF m 2 #[.val (.ref a1), .val (.long (0 : Int64)), .second, .unset, .unset, .unset, .unset] [])) _
    refine XS.aloadN X0.here hx rfl (hb hby d4_2) rfl rfl ?_
    show Steps p.tables e below (s₁.setTop (mkF m 3 #[.val (.ref a1), .val (.long (0 : Int64)), .second, .unset, .unset, .unset, .unset] [(.ref a1)])) _
    refine st101 _ ?_
    show Steps p.tables e below (T101.setTop (mkF m 6 #[.val (.ref a1), .val (.long (0 : Int64)), .second, .unset, .unset, .unset, .unset] [(.ref ta)])) _
    refine XS.astoreN X101.here hx rfl (hb hby d4_6) rfl rfl (l' := #[.val (.ref a1), .val (.long (0 : Int64)), .second, .val (.ref ta), .unset, .unset, .unset]) rfl ?_
    show Steps p.tables e below (T101.setTop (mkF m 7 #[.val (.ref a1), .val (.long (0 : Int64)), .second, .val (.ref ta), .unset, .unset, .unset] [])) _
    refine XS.aloadN X101.here hx rfl (hb hby d4_7) rfl rfl ?_
    show Steps p.tables e below (T101.setTop (mkF m 8 #[.val (.ref a1), .val (.long (0 : Int64)), .second, .val (.ref ta), .unset, .unset, .unset] [(.ref ta)])) _
    refine X101.arraylength hx (by rw [e101]; exact Ar.1) (State.isArrayOf_alike hZ.alike Ar.2.1) (g := (mkF m 8 #[.val (.ref a1), .val (.long (0 : Int64)), .second, .val (.ref ta), .unset, .unset, .unset] [(.ref ta)])) rfl rfl (hb hby d4_8) _ ?_
    rw [len_of Sz Ng]
    show Steps p.tables e below (T101.setTop (mkF m 9 #[.val (.ref a1), .val (.long (0 : Int64)), .second, .val (.ref ta), .unset, .unset, .unset] [(.int (3 : Int32))])) _
    refine XS.istore X101.here hx rfl (hb hby d4_9) rfl (l' := #[.val (.ref a1), .val (.long (0 : Int64)), .second, .val (.ref ta), .val (.int (3 : Int32)), .unset, .unset]) rfl ?_
    show Steps p.tables e below (T101.setTop (mkF m 11 #[.val (.ref a1), .val (.long (0 : Int64)), .second, .val (.ref ta), .val (.int (3 : Int32)), .unset, .unset] [])) _
    refine XS.iconst X101.here hx rfl (hb hby d4_11) ?_
    show Steps p.tables e below (T101.setTop (mkF m 12 #[.val (.ref a1), .val (.long (0 : Int64)), .second, .val (.ref ta), .val (.int (3 : Int32)), .unset, .unset] [(.int (0 : Int32))])) _
    refine XS.istore X101.here hx rfl (hb hby d4_12) rfl (l' := #[.val (.ref a1), .val (.long (0 : Int64)), .second, .val (.ref ta), .val (.int (3 : Int32)), .val (.int (0 : Int32)), .unset]) rfl ?_
    show Steps p.tables e below (T101.setTop (mkF m 14 #[.val (.ref a1), .val (.long (0 : Int64)), .second, .val (.ref ta), .val (.int (3 : Int32)), .val (.int (0 : Int32)), .unset] [])) _
    refine XS.iload X101.here hx rfl (hb hby d4_14) rfl ?_
    show Steps p.tables e below (T101.setTop (mkF m 16 #[.val (.ref a1), .val (.long (0 : Int64)), .second, .val (.ref ta), .val (.int (3 : Int32)), .val (.int (0 : Int32)), .unset] [(.int (0 : Int32))])) _
    refine XS.iload X101.here hx rfl (hb hby d4_16) rfl ?_
    show Steps p.tables e below (T101.setTop (mkF m 18 #[.val (.ref a1), .val (.long (0 : Int64)), .second, .val (.ref ta), .val (.int (3 : Int32)), .val (.int (0 : Int32)), .unset] [(.int (3 : Int32)), (.int (0 : Int32))])) _
    refine XS.icmpNo X101.here hx rfl (hb hby d4_18) rfl (tlt (by decide)).2.1 ?_
    show Steps p.tables e below (T101.setTop (mkF m 21 #[.val (.ref a1), .val (.long (0 : Int64)), .second, .val (.ref ta), .val (.int (3 : Int32)), .val (.int (0 : Int32)), .unset] [])) _
    refine XS.aloadN X101.here hx rfl (hb hby d4_21) rfl rfl ?_
    show Steps p.tables e below (T101.setTop (mkF m 22 #[.val (.ref a1), .val (.long (0 : Int64)), .second, .val (.ref ta), .val (.int (3 : Int32)), .val (.int (0 : Int32)), .unset] [(.ref ta)])) _
    refine XS.iload X101.here hx rfl (hb hby d4_22) rfl ?_
    show Steps p.tables e below (T101.setTop (mkF m 24 #[.val (.ref a1), .val (.long (0 : Int64)), .second, .val (.ref ta), .val (.int (3 : Int32)), .val (.int (0 : Int32)), .unset] [(.int (0 : Int32)), (.ref ta)])) _
    refine X101.iaload hx (j := (0 : Int32)) (v := (.int x0)) (by rw [e101]; exact Ar.1) (State.isArrayOf_alike hZ.alike Ar.2.1) Ar.2.2 hin0 hat0 (g := (mkF m 24 #[.val (.ref a1), .val (.long (0 : Int64)), .second, .val (.ref ta), .val (.int (3 : Int32)), .val (.int (0 : Int32)), .unset] [(.int (0 : Int32)), (.ref ta)])) rfl rfl (hb hby d4_24) _ ?_
    show Steps p.tables e below (T101.setTop (mkF m 25 #[.val (.ref a1), .val (.long (0 : Int64)), .second, .val (.ref ta), .val (.int (3 : Int32)), .val (.int (0 : Int32)), .unset] [(.int x0)])) _
    refine XS.istore X101.here hx rfl (hb hby d4_25) rfl (l' := #[.val (.ref a1), .val (.long (0 : Int64)), .second, .val (.ref ta), .val (.int (3 : Int32)), .val (.int (0 : Int32)), .val (.int x0)]) rfl ?_
    show Steps p.tables e below (T101.setTop (mkF m 27 #[.val (.ref a1), .val (.long (0 : Int64)), .second, .val (.ref ta), .val (.int (3 : Int32)), .val (.int (0 : Int32)), .val (.int x0)] [])) _
    refine XS.lloadN X101.here hx rfl (hb hby d4_27) rfl ?_
    show Steps p.tables e below (T101.setTop (mkF m 28 #[.val (.ref a1), .val (.long (0 : Int64)), .second, .val (.ref ta), .val (.int (3 : Int32)), .val (.int (0 : Int32)), .val (.int x0)] [(.long (0 : Int64))])) _
    refine XS.iload X101.here hx rfl (hb hby d4_28) rfl ?_
    show Steps p.tables e below (T101.setTop (mkF m 30 #[.val (.ref a1), .val (.long (0 : Int64)), .second, .val (.ref ta), .val (.int (3 : Int32)), .val (.int (0 : Int32)), .val (.int x0)] [(.int x0), (.long (0 : Int64))])) _
    refine XS.i2l X101.here hx rfl (hb hby d4_30) rfl ?_
    show Steps p.tables e below (T101.setTop (mkF m 31 #[.val (.ref a1), .val (.long (0 : Int64)), .second, .val (.ref ta), .val (.int (3 : Int32)), .val (.int (0 : Int32)), .val (.int x0)] [(.long (x0.toInt64)), (.long (0 : Int64))])) _
    refine XS.ladd X101.here hx rfl (hb hby d4_31) rfl ?_
    show Steps p.tables e below (T101.setTop (mkF m 32 #[.val (.ref a1), .val (.long (0 : Int64)), .second, .val (.ref ta), .val (.int (3 : Int32)), .val (.int (0 : Int32)), .val (.int x0)] [(.long ((0 : Int64) + (x0.toInt64)))])) _
    refine XS.lstoreN X101.here hx rfl (hb hby d4_32) rfl (l' := #[.val (.ref a1), .val (.long ((0 : Int64) + (x0.toInt64))), .second, .val (.ref ta), .val (.int (3 : Int32)), .val (.int (0 : Int32)), .val (.int x0)]) rfl ?_
    show Steps p.tables e below (T101.setTop (mkF m 33 #[.val (.ref a1), .val (.long ((0 : Int64) + (x0.toInt64))), .second, .val (.ref ta), .val (.int (3 : Int32)), .val (.int (0 : Int32)), .val (.int x0)] [])) _
    refine XS.iinc X101.here hx rfl (hb hby d4_33) rfl (l' := #[.val (.ref a1), .val (.long ((0 : Int64) + (x0.toInt64))), .second, .val (.ref ta), .val (.int (3 : Int32)), .val (.int ((0 : Int32) + (1 : Int32))), .val (.int x0)]) rfl ?_
    show Steps p.tables e below (T101.setTop (mkF m 36 #[.val (.ref a1), .val (.long ((0 : Int64) + (x0.toInt64))), .second, .val (.ref ta), .val (.int (3 : Int32)), .val (.int ((0 : Int32) + (1 : Int32))), .val (.int x0)] [])) _
    refine XS.goto X101.here hx rfl (pc0 := 36) (pc' := 14) rfl (hb hby d4_36) (by decide) (by decide) ?_
    show Steps p.tables e below (T101.setTop (mkF m 14 #[.val (.ref a1), .val (.long ((0 : Int64) + (x0.toInt64))), .second, .val (.ref ta), .val (.int (3 : Int32)), .val (.int ((0 : Int32) + (1 : Int32))), .val (.int x0)] [])) _
    refine XS.iload X101.here hx rfl (hb hby d4_14) rfl ?_
    show Steps p.tables e below (T101.setTop (mkF m 16 #[.val (.ref a1), .val (.long ((0 : Int64) + (x0.toInt64))), .second, .val (.ref ta), .val (.int (3 : Int32)), .val (.int ((0 : Int32) + (1 : Int32))), .val (.int x0)] [(.int ((0 : Int32) + (1 : Int32)))])) _
    refine XS.iload X101.here hx rfl (hb hby d4_16) rfl ?_
    show Steps p.tables e below (T101.setTop (mkF m 18 #[.val (.ref a1), .val (.long ((0 : Int64) + (x0.toInt64))), .second, .val (.ref ta), .val (.int (3 : Int32)), .val (.int ((0 : Int32) + (1 : Int32))), .val (.int x0)] [(.int (3 : Int32)), (.int ((0 : Int32) + (1 : Int32)))])) _
    refine XS.icmpNo X101.here hx rfl (hb hby d4_18) rfl (tlt (by decide)).2.1 ?_
    show Steps p.tables e below (T101.setTop (mkF m 21 #[.val (.ref a1), .val (.long ((0 : Int64) + (x0.toInt64))), .second, .val (.ref ta), .val (.int (3 : Int32)), .val (.int ((0 : Int32) + (1 : Int32))), .val (.int x0)] [])) _
    refine XS.aloadN X101.here hx rfl (hb hby d4_21) rfl rfl ?_
    show Steps p.tables e below (T101.setTop (mkF m 22 #[.val (.ref a1), .val (.long ((0 : Int64) + (x0.toInt64))), .second, .val (.ref ta), .val (.int (3 : Int32)), .val (.int ((0 : Int32) + (1 : Int32))), .val (.int x0)] [(.ref ta)])) _
    refine XS.iload X101.here hx rfl (hb hby d4_22) rfl ?_
    show Steps p.tables e below (T101.setTop (mkF m 24 #[.val (.ref a1), .val (.long ((0 : Int64) + (x0.toInt64))), .second, .val (.ref ta), .val (.int (3 : Int32)), .val (.int ((0 : Int32) + (1 : Int32))), .val (.int x0)] [(.int ((0 : Int32) + (1 : Int32))), (.ref ta)])) _
    refine X101.iaload hx (j := ((0 : Int32) + (1 : Int32))) (v := (.int x1)) (by rw [e101]; exact Ar.1) (State.isArrayOf_alike hZ.alike Ar.2.1) Ar.2.2 hin1 hat1 (g := (mkF m 24 #[.val (.ref a1), .val (.long ((0 : Int64) + (x0.toInt64))), .second, .val (.ref ta), .val (.int (3 : Int32)), .val (.int ((0 : Int32) + (1 : Int32))), .val (.int x0)] [(.int ((0 : Int32) + (1 : Int32))), (.ref ta)])) rfl rfl (hb hby d4_24) _ ?_
    show Steps p.tables e below (T101.setTop (mkF m 25 #[.val (.ref a1), .val (.long ((0 : Int64) + (x0.toInt64))), .second, .val (.ref ta), .val (.int (3 : Int32)), .val (.int ((0 : Int32) + (1 : Int32))), .val (.int x0)] [(.int x1)])) _
    refine XS.istore X101.here hx rfl (hb hby d4_25) rfl (l' := #[.val (.ref a1), .val (.long ((0 : Int64) + (x0.toInt64))), .second, .val (.ref ta), .val (.int (3 : Int32)), .val (.int ((0 : Int32) + (1 : Int32))), .val (.int x1)]) rfl ?_
    show Steps p.tables e below (T101.setTop (mkF m 27 #[.val (.ref a1), .val (.long ((0 : Int64) + (x0.toInt64))), .second, .val (.ref ta), .val (.int (3 : Int32)), .val (.int ((0 : Int32) + (1 : Int32))), .val (.int x1)] [])) _
    refine XS.lloadN X101.here hx rfl (hb hby d4_27) rfl ?_
    show Steps p.tables e below (T101.setTop (mkF m 28 #[.val (.ref a1), .val (.long ((0 : Int64) + (x0.toInt64))), .second, .val (.ref ta), .val (.int (3 : Int32)), .val (.int ((0 : Int32) + (1 : Int32))), .val (.int x1)] [(.long ((0 : Int64) + (x0.toInt64)))])) _
    refine XS.iload X101.here hx rfl (hb hby d4_28) rfl ?_
    show Steps p.tables e below (T101.setTop (mkF m 30 #[.val (.ref a1), .val (.long ((0 : Int64) + (x0.toInt64))), .second, .val (.ref ta), .val (.int (3 : Int32)), .val (.int ((0 : Int32) + (1 : Int32))), .val (.int x1)] [(.int x1), (.long ((0 : Int64) + (x0.toInt64)))])) _
    refine XS.i2l X101.here hx rfl (hb hby d4_30) rfl ?_
    show Steps p.tables e below (T101.setTop (mkF m 31 #[.val (.ref a1), .val (.long ((0 : Int64) + (x0.toInt64))), .second, .val (.ref ta), .val (.int (3 : Int32)), .val (.int ((0 : Int32) + (1 : Int32))), .val (.int x1)] [(.long (x1.toInt64)), (.long ((0 : Int64) + (x0.toInt64)))])) _
    refine XS.ladd X101.here hx rfl (hb hby d4_31) rfl ?_
    show Steps p.tables e below (T101.setTop (mkF m 32 #[.val (.ref a1), .val (.long ((0 : Int64) + (x0.toInt64))), .second, .val (.ref ta), .val (.int (3 : Int32)), .val (.int ((0 : Int32) + (1 : Int32))), .val (.int x1)] [(.long (((0 : Int64) + (x0.toInt64)) + (x1.toInt64)))])) _
    refine XS.lstoreN X101.here hx rfl (hb hby d4_32) rfl (l' := #[.val (.ref a1), .val (.long (((0 : Int64) + (x0.toInt64)) + (x1.toInt64))), .second, .val (.ref ta), .val (.int (3 : Int32)), .val (.int ((0 : Int32) + (1 : Int32))), .val (.int x1)]) rfl ?_
    show Steps p.tables e below (T101.setTop (mkF m 33 #[.val (.ref a1), .val (.long (((0 : Int64) + (x0.toInt64)) + (x1.toInt64))), .second, .val (.ref ta), .val (.int (3 : Int32)), .val (.int ((0 : Int32) + (1 : Int32))), .val (.int x1)] [])) _
    refine XS.iinc X101.here hx rfl (hb hby d4_33) rfl (l' := #[.val (.ref a1), .val (.long (((0 : Int64) + (x0.toInt64)) + (x1.toInt64))), .second, .val (.ref ta), .val (.int (3 : Int32)), .val (.int (((0 : Int32) + (1 : Int32)) + (1 : Int32))), .val (.int x1)]) rfl ?_
    show Steps p.tables e below (T101.setTop (mkF m 36 #[.val (.ref a1), .val (.long (((0 : Int64) + (x0.toInt64)) + (x1.toInt64))), .second, .val (.ref ta), .val (.int (3 : Int32)), .val (.int (((0 : Int32) + (1 : Int32)) + (1 : Int32))), .val (.int x1)] [])) _
    refine XS.goto X101.here hx rfl (pc0 := 36) (pc' := 14) rfl (hb hby d4_36) (by decide) (by decide) ?_
    show Steps p.tables e below (T101.setTop (mkF m 14 #[.val (.ref a1), .val (.long (((0 : Int64) + (x0.toInt64)) + (x1.toInt64))), .second, .val (.ref ta), .val (.int (3 : Int32)), .val (.int (((0 : Int32) + (1 : Int32)) + (1 : Int32))), .val (.int x1)] [])) _
    refine XS.iload X101.here hx rfl (hb hby d4_14) rfl ?_
    show Steps p.tables e below (T101.setTop (mkF m 16 #[.val (.ref a1), .val (.long (((0 : Int64) + (x0.toInt64)) + (x1.toInt64))), .second, .val (.ref ta), .val (.int (3 : Int32)), .val (.int (((0 : Int32) + (1 : Int32)) + (1 : Int32))), .val (.int x1)] [(.int (((0 : Int32) + (1 : Int32)) + (1 : Int32)))])) _
    refine XS.iload X101.here hx rfl (hb hby d4_16) rfl ?_
    show Steps p.tables e below (T101.setTop (mkF m 18 #[.val (.ref a1), .val (.long (((0 : Int64) + (x0.toInt64)) + (x1.toInt64))), .second, .val (.ref ta), .val (.int (3 : Int32)), .val (.int (((0 : Int32) + (1 : Int32)) + (1 : Int32))), .val (.int x1)] [(.int (3 : Int32)), (.int (((0 : Int32) + (1 : Int32)) + (1 : Int32)))])) _
    refine XS.icmpNo X101.here hx rfl (hb hby d4_18) rfl (tlt (by decide)).2.1 ?_
    show Steps p.tables e below (T101.setTop (mkF m 21 #[.val (.ref a1), .val (.long (((0 : Int64) + (x0.toInt64)) + (x1.toInt64))), .second, .val (.ref ta), .val (.int (3 : Int32)), .val (.int (((0 : Int32) + (1 : Int32)) + (1 : Int32))), .val (.int x1)] [])) _
    refine XS.aloadN X101.here hx rfl (hb hby d4_21) rfl rfl ?_
    show Steps p.tables e below (T101.setTop (mkF m 22 #[.val (.ref a1), .val (.long (((0 : Int64) + (x0.toInt64)) + (x1.toInt64))), .second, .val (.ref ta), .val (.int (3 : Int32)), .val (.int (((0 : Int32) + (1 : Int32)) + (1 : Int32))), .val (.int x1)] [(.ref ta)])) _
    refine XS.iload X101.here hx rfl (hb hby d4_22) rfl ?_
    show Steps p.tables e below (T101.setTop (mkF m 24 #[.val (.ref a1), .val (.long (((0 : Int64) + (x0.toInt64)) + (x1.toInt64))), .second, .val (.ref ta), .val (.int (3 : Int32)), .val (.int (((0 : Int32) + (1 : Int32)) + (1 : Int32))), .val (.int x1)] [(.int (((0 : Int32) + (1 : Int32)) + (1 : Int32))), (.ref ta)])) _
    refine X101.iaload hx (j := (((0 : Int32) + (1 : Int32)) + (1 : Int32))) (v := (.int x2)) (by rw [e101]; exact Ar.1) (State.isArrayOf_alike hZ.alike Ar.2.1) Ar.2.2 hin2 hat2 (g := (mkF m 24 #[.val (.ref a1), .val (.long (((0 : Int64) + (x0.toInt64)) + (x1.toInt64))), .second, .val (.ref ta), .val (.int (3 : Int32)), .val (.int (((0 : Int32) + (1 : Int32)) + (1 : Int32))), .val (.int x1)] [(.int (((0 : Int32) + (1 : Int32)) + (1 : Int32))), (.ref ta)])) rfl rfl (hb hby d4_24) _ ?_
    show Steps p.tables e below (T101.setTop (mkF m 25 #[.val (.ref a1), .val (.long (((0 : Int64) + (x0.toInt64)) + (x1.toInt64))), .second, .val (.ref ta), .val (.int (3 : Int32)), .val (.int (((0 : Int32) + (1 : Int32)) + (1 : Int32))), .val (.int x1)] [(.int x2)])) _
    refine XS.istore X101.here hx rfl (hb hby d4_25) rfl (l' := #[.val (.ref a1), .val (.long (((0 : Int64) + (x0.toInt64)) + (x1.toInt64))), .second, .val (.ref ta), .val (.int (3 : Int32)), .val (.int (((0 : Int32) + (1 : Int32)) + (1 : Int32))), .val (.int x2)]) rfl ?_
    show Steps p.tables e below (T101.setTop (mkF m 27 #[.val (.ref a1), .val (.long (((0 : Int64) + (x0.toInt64)) + (x1.toInt64))), .second, .val (.ref ta), .val (.int (3 : Int32)), .val (.int (((0 : Int32) + (1 : Int32)) + (1 : Int32))), .val (.int x2)] [])) _
    refine XS.lloadN X101.here hx rfl (hb hby d4_27) rfl ?_
    show Steps p.tables e below (T101.setTop (mkF m 28 #[.val (.ref a1), .val (.long (((0 : Int64) + (x0.toInt64)) + (x1.toInt64))), .second, .val (.ref ta), .val (.int (3 : Int32)), .val (.int (((0 : Int32) + (1 : Int32)) + (1 : Int32))), .val (.int x2)] [(.long (((0 : Int64) + (x0.toInt64)) + (x1.toInt64)))])) _
    refine XS.iload X101.here hx rfl (hb hby d4_28) rfl ?_
    show Steps p.tables e below (T101.setTop (mkF m 30 #[.val (.ref a1), .val (.long (((0 : Int64) + (x0.toInt64)) + (x1.toInt64))), .second, .val (.ref ta), .val (.int (3 : Int32)), .val (.int (((0 : Int32) + (1 : Int32)) + (1 : Int32))), .val (.int x2)] [(.int x2), (.long (((0 : Int64) + (x0.toInt64)) + (x1.toInt64)))])) _
    refine XS.i2l X101.here hx rfl (hb hby d4_30) rfl ?_
    show Steps p.tables e below (T101.setTop (mkF m 31 #[.val (.ref a1), .val (.long (((0 : Int64) + (x0.toInt64)) + (x1.toInt64))), .second, .val (.ref ta), .val (.int (3 : Int32)), .val (.int (((0 : Int32) + (1 : Int32)) + (1 : Int32))), .val (.int x2)] [(.long (x2.toInt64)), (.long (((0 : Int64) + (x0.toInt64)) + (x1.toInt64)))])) _
    refine XS.ladd X101.here hx rfl (hb hby d4_31) rfl ?_
    show Steps p.tables e below (T101.setTop (mkF m 32 #[.val (.ref a1), .val (.long (((0 : Int64) + (x0.toInt64)) + (x1.toInt64))), .second, .val (.ref ta), .val (.int (3 : Int32)), .val (.int (((0 : Int32) + (1 : Int32)) + (1 : Int32))), .val (.int x2)] [(.long ((((0 : Int64) + (x0.toInt64)) + (x1.toInt64)) + (x2.toInt64)))])) _
    refine XS.lstoreN X101.here hx rfl (hb hby d4_32) rfl (l' := #[.val (.ref a1), .val (.long ((((0 : Int64) + (x0.toInt64)) + (x1.toInt64)) + (x2.toInt64))), .second, .val (.ref ta), .val (.int (3 : Int32)), .val (.int (((0 : Int32) + (1 : Int32)) + (1 : Int32))), .val (.int x2)]) rfl ?_
    show Steps p.tables e below (T101.setTop (mkF m 33 #[.val (.ref a1), .val (.long ((((0 : Int64) + (x0.toInt64)) + (x1.toInt64)) + (x2.toInt64))), .second, .val (.ref ta), .val (.int (3 : Int32)), .val (.int (((0 : Int32) + (1 : Int32)) + (1 : Int32))), .val (.int x2)] [])) _
    refine XS.iinc X101.here hx rfl (hb hby d4_33) rfl (l' := #[.val (.ref a1), .val (.long ((((0 : Int64) + (x0.toInt64)) + (x1.toInt64)) + (x2.toInt64))), .second, .val (.ref ta), .val (.int (3 : Int32)), .val (.int ((((0 : Int32) + (1 : Int32)) + (1 : Int32)) + (1 : Int32))), .val (.int x2)]) rfl ?_
    show Steps p.tables e below (T101.setTop (mkF m 36 #[.val (.ref a1), .val (.long ((((0 : Int64) + (x0.toInt64)) + (x1.toInt64)) + (x2.toInt64))), .second, .val (.ref ta), .val (.int (3 : Int32)), .val (.int ((((0 : Int32) + (1 : Int32)) + (1 : Int32)) + (1 : Int32))), .val (.int x2)] [])) _
    refine XS.goto X101.here hx rfl (pc0 := 36) (pc' := 14) rfl (hb hby d4_36) (by decide) (by decide) ?_
    show Steps p.tables e below (T101.setTop (mkF m 14 #[.val (.ref a1), .val (.long ((((0 : Int64) + (x0.toInt64)) + (x1.toInt64)) + (x2.toInt64))), .second, .val (.ref ta), .val (.int (3 : Int32)), .val (.int ((((0 : Int32) + (1 : Int32)) + (1 : Int32)) + (1 : Int32))), .val (.int x2)] [])) _
    refine XS.iload X101.here hx rfl (hb hby d4_14) rfl ?_
    show Steps p.tables e below (T101.setTop (mkF m 16 #[.val (.ref a1), .val (.long ((((0 : Int64) + (x0.toInt64)) + (x1.toInt64)) + (x2.toInt64))), .second, .val (.ref ta), .val (.int (3 : Int32)), .val (.int ((((0 : Int32) + (1 : Int32)) + (1 : Int32)) + (1 : Int32))), .val (.int x2)] [(.int ((((0 : Int32) + (1 : Int32)) + (1 : Int32)) + (1 : Int32)))])) _
    refine XS.iload X101.here hx rfl (hb hby d4_16) rfl ?_
    show Steps p.tables e below (T101.setTop (mkF m 18 #[.val (.ref a1), .val (.long ((((0 : Int64) + (x0.toInt64)) + (x1.toInt64)) + (x2.toInt64))), .second, .val (.ref ta), .val (.int (3 : Int32)), .val (.int ((((0 : Int32) + (1 : Int32)) + (1 : Int32)) + (1 : Int32))), .val (.int x2)] [(.int (3 : Int32)), (.int ((((0 : Int32) + (1 : Int32)) + (1 : Int32)) + (1 : Int32)))])) _
    refine XS.icmpYes X101.here hx rfl (pc0 := 18) (pc' := 39) rfl (hb hby d4_18) rfl (flt (by decide)).2.1 (by decide) (by decide) ?_
    show Steps p.tables e below (T101.setTop (mkF m 39 #[.val (.ref a1), .val (.long ((((0 : Int64) + (x0.toInt64)) + (x1.toInt64)) + (x2.toInt64))), .second, .val (.ref ta), .val (.int (3 : Int32)), .val (.int ((((0 : Int32) + (1 : Int32)) + (1 : Int32)) + (1 : Int32))), .val (.int x2)] [])) _
    refine XS.lloadN X101.here hx rfl (hb hby d4_39) rfl ?_
    exact k_)
  obtain ⟨fs, hr, hrun, hended, hW, hsame⟩ := X101.leave (v := some (.long ((((0 : Int64) + (x0.toInt64)) + (x1.toInt64)) + (x2.toInt64)))) (fun h => by rw [Bd.returns] at h; cases h)
  refine ⟨_, _, pre102 _ ?_, hrun, hended, _, _, rfl, ?_, ⟨_, rfl⟩, hW, hsame.mono (by decide) (by decide)⟩
  · show Steps p.tables e below (T101.setTop (mkF m 40 #[.val (.ref a1), .val (.long ((((0 : Int64) + (x0.toInt64)) + (x1.toInt64)) + (x2.toInt64))), .second, .val (.ref ta), .val (.int (3 : Int32)), .val (.int ((((0 : Int32) + (1 : Int32)) + (1 : Int32)) + (1 : Int32))), .val (.int x2)] [(.long ((((0 : Int64) + (x0.toInt64)) + (x1.toInt64)) + (x2.toInt64)))])) _
    exact retJ X101 hx Bd.returns (hb hby d4_40) hr
  · show QrmF3 Z a1 ta kx x0 x1 x2 h0 n0 _ T101.heap _
    rw [e101]
    exact ⟨rfl, N0, rfl⟩
theorem ef_rmF4 (m : MethodId) (x0 : Addr) : entryFrame m #[(.ref x0)] 7 = mkF m 0 #[.val (.ref x0), .unset, .unset, .unset, .unset, .unset, .unset] [] := by first | (simp [entryFrame, mkF, argsToLocals, Value.category]; done) | rfl
def QrmF4 (Z : State) (a1 : Addr) (ta : Addr) (kx : ClassId) (x0 : Int32) (x1 : Int32) (x2 : Int32) (x3 : Int32) (h0 : Heap) (n0 : Nat) (v : Option Value) (h : Heap) (L : List Loc) : Prop := v = some (.long (((((0 : Int64) + (x0.toInt64)) + (x1.toInt64)) + (x2.toInt64)) + (x3.toInt64))) ∧ Fr n0 L ∧ h = h0
set_option maxRecDepth 65536 in
set_option maxHeartbeats 40000000 in
theorem rmF4 (l : Launch) (Z : State) (a0 : Array Value) (hw : ∀ d ∈ tables_1, d.before a0 Z = true) (ws : List Jvm.Cond) (a1 : Addr) (ta : Addr) (kx : ClassId) (x0 : Int32) (x1 : Int32) (x2 : Int32) (x3 : Int32) (h0 : Heap) (n0 : Nat) (Z0 : n0 ≤ h0.size) (F_c : Fld Z h0 a1 "com/example/cranfield/cranfield/index/Postings" "counts" "[I" (.ref ta)) (V : Arv Z h0 ta kx .int (4 : Int32) [(.int x0), (.int x1), (.int x2), (.int x3)] (.int (0 : Int32))) :
    MetFree l (⟨"com/example/cranfield/cranfield/index/Postings", "collectionFrequency", "()J"⟩ : MethodName) (head1 (Jvm.Cond.code (⟨"com/example/cranfield/cranfield/index/Postings", "collectionFrequency", "()J"⟩ : MethodName) prog_31_method_3_code 7 (some .long) :: ws) ({ frames := 0, cells := 0, slots := 0, locals := 0 } : Room)) (fun a U => a = #[(.ref a1)] ∧ Z.Warmed39 U.vm ∧ U.heap = h0) (fun _ _ _ _ _ => True) (fun _ U o U' => ∃ v L, o = .returned v ∧ QrmF4 Z a1 ta kx x0 x1 x2 x3 h0 n0 v U'.heap L ∧ FrameEnd U o U' L ({ frames := 0, cells := 0, slots := 0, locals := 0 } : Room).cells ({ frames := 0, cells := 0, slots := 0, locals := 0 } : Room).slots) := by
  refine MetFree.of_bodySF (plainFor_of_name pn_1) hisR ?_
  intro p e s m args below meth c s₁ Bd hml0 hP hK
  obtain ⟨rfl, hZ, hh⟩ := hP
  have hx := Bd.exec
  have hby := Bd.bytes
  have hml : c.maxLocals = 7 := hml0
  have hown : s.vm.findClass "com/example/cranfield/cranfield/index/Postings" = some m.cls := findClass_of_methodNamed Bd.named
  have hnm := (name_of_methodNamed Bd.named Bd.method).1
  have X0 : Stand p l e ({ frames := 0, cells := 0, slots := 0, locals := 0 } : Room) s m #[(.ref a1)] below meth c s₁ [] 0 0 := Stand.of_body Bd
  have e0 : s₁.heap = h0 := by rw [← hh, Bd.state]; rfl
  have N0 := Fr.nil n0
  have pre0 : ∀ t_, Steps p.tables e below (s₁.setTop (mkF m 0 #[.val (.ref a1), .unset, .unset, .unset, .unset, .unset, .unset] [])) t_ → Steps p.tables e below (s₁.setTop (entryFrame m #[(.ref a1)] 7)) t_ := fun t_ k_ => castTop (ef_rmF4 m a1) k_
  obtain ⟨T101, X101, e101, st101⟩ := getF X0 hx hZ hown (host := "") (Or.inl (hw _ (List.mem_of_getElem? (i := 17) rfl))) Via.refl e0 F_c (g := (mkF m 3 #[.val (.ref a1), .val (.long (0 : Int64)), .second, .unset, .unset, .unset, .unset] [(.ref a1)])) rfl rfl (hb hby d4_3)
  obtain ⟨cl, Ar, -, Sz, Ng, Hs, -⟩ := V
  have hin0 : ¬ ((0 : Int32) < 0 ∨ cl.slots.size ≤ ((0 : Int32)).toNatClampNeg) := inb_of Sz ⟨by decide, by decide⟩
  have hat0 : cl.slots[((0 : Int32)).toNatClampNeg]? = some (.int x0) := Has.at Hs hin0 rfl
  have hin1 : ¬ (((0 : Int32) + (1 : Int32)) < 0 ∨ cl.slots.size ≤ (((0 : Int32) + (1 : Int32))).toNatClampNeg) := inb_of Sz ⟨by decide, by decide⟩
  have hat1 : cl.slots[(((0 : Int32) + (1 : Int32))).toNatClampNeg]? = some (.int x1) := Has.at Hs hin1 rfl
  have hin2 : ¬ ((((0 : Int32) + (1 : Int32)) + (1 : Int32)) < 0 ∨ cl.slots.size ≤ ((((0 : Int32) + (1 : Int32)) + (1 : Int32))).toNatClampNeg) := inb_of Sz ⟨by decide, by decide⟩
  have hat2 : cl.slots[((((0 : Int32) + (1 : Int32)) + (1 : Int32))).toNatClampNeg]? = some (.int x2) := Has.at Hs hin2 rfl
  have hin3 : ¬ (((((0 : Int32) + (1 : Int32)) + (1 : Int32)) + (1 : Int32)) < 0 ∨ cl.slots.size ≤ (((((0 : Int32) + (1 : Int32)) + (1 : Int32)) + (1 : Int32))).toNatClampNeg) := inb_of Sz ⟨by decide, by decide⟩
  have hat3 : cl.slots[(((((0 : Int32) + (1 : Int32)) + (1 : Int32)) + (1 : Int32))).toNatClampNeg]? = some (.int x3) := Has.at Hs hin3 rfl
  have pre102 : ∀ t_, Steps p.tables e below (T101.setTop (mkF m 40 #[.val (.ref a1), .val (.long (((((0 : Int64) + (x0.toInt64)) + (x1.toInt64)) + (x2.toInt64)) + (x3.toInt64))), .second, .val (.ref ta), .val (.int (4 : Int32)), .val (.int (((((0 : Int32) + (1 : Int32)) + (1 : Int32)) + (1 : Int32)) + (1 : Int32))), .val (.int x3)] [(.long (((((0 : Int64) + (x0.toInt64)) + (x1.toInt64)) + (x2.toInt64)) + (x3.toInt64)))])) t_ → Steps p.tables e below (s₁.setTop (entryFrame m #[(.ref a1)] 7)) t_ := fun t_ k_ => pre0 _ (by
    show Steps p.tables e below (s₁.setTop (mkF m 0 #[.val (.ref a1), .unset, .unset, .unset, .unset, .unset, .unset] [])) _
    refine XS.lconst X0.here hx rfl (hb hby d4_0) ?_
    show Steps p.tables e below (s₁.setTop (mkF m 1 #[.val (.ref a1), .unset, .unset, .unset, .unset, .unset, .unset] [(.long (0 : Int64))])) _
    refine XS.lstoreN X0.here hx rfl (hb hby d4_1) rfl (l' := #[.val (.ref a1), .val (.long (0 : Int64)), .second, .unset, .unset, .unset, .unset]) rfl ?_
    show Steps p.tables e below (s₁.setTop (mkF m 2 #[.val (.ref a1), .val (.long (0 : Int64)), .second, .unset, .unset, .unset, .unset] [])) _
    refine XS.aloadN X0.here hx rfl (hb hby d4_2) rfl rfl ?_
    show Steps p.tables e below (s₁.setTop (mkF m 3 #[.val (.ref a1), .val (.long (0 : Int64)), .second, .unset, .unset, .unset, .unset] [(.ref a1)])) _
    refine st101 _ ?_
    show Steps p.tables e below (T101.setTop (mkF m 6 #[.val (.ref a1), .val (.long (0 : Int64)), .second, .unset, .unset, .unset, .unset] [(.ref ta)])) _
    refine XS.astoreN X101.here hx rfl (hb hby d4_6) rfl rfl (l' := #[.val (.ref a1), .val (.long (0 : Int64)), .second, .val (.ref ta), .unset, .unset, .unset]) rfl ?_
    show Steps p.tables e below (T101.setTop (mkF m 7 #[.val (.ref a1), .val (.long (0 : Int64)), .second, .val (.ref ta), .unset, .unset, .unset] [])) _
    refine XS.aloadN X101.here hx rfl (hb hby d4_7) rfl rfl ?_
    show Steps p.tables e below (T101.setTop (mkF m 8 #[.val (.ref a1), .val (.long (0 : Int64)), .second, .val (.ref ta), .unset, .unset, .unset] [(.ref ta)])) _
    refine X101.arraylength hx (by rw [e101]; exact Ar.1) (State.isArrayOf_alike hZ.alike Ar.2.1) (g := (mkF m 8 #[.val (.ref a1), .val (.long (0 : Int64)), .second, .val (.ref ta), .unset, .unset, .unset] [(.ref ta)])) rfl rfl (hb hby d4_8) _ ?_
    rw [len_of Sz Ng]
    show Steps p.tables e below (T101.setTop (mkF m 9 #[.val (.ref a1), .val (.long (0 : Int64)), .second, .val (.ref ta), .unset, .unset, .unset] [(.int (4 : Int32))])) _
    refine XS.istore X101.here hx rfl (hb hby d4_9) rfl (l' := #[.val (.ref a1), .val (.long (0 : Int64)), .second, .val (.ref ta), .val (.int (4 : Int32)), .unset, .unset]) rfl ?_
    show Steps p.tables e below (T101.setTop (mkF m 11 #[.val (.ref a1), .val (.long (0 : Int64)), .second, .val (.ref ta), .val (.int (4 : Int32)), .unset, .unset] [])) _
    refine XS.iconst X101.here hx rfl (hb hby d4_11) ?_
    show Steps p.tables e below (T101.setTop (mkF m 12 #[.val (.ref a1), .val (.long (0 : Int64)), .second, .val (.ref ta), .val (.int (4 : Int32)), .unset, .unset] [(.int (0 : Int32))])) _
    refine XS.istore X101.here hx rfl (hb hby d4_12) rfl (l' := #[.val (.ref a1), .val (.long (0 : Int64)), .second, .val (.ref ta), .val (.int (4 : Int32)), .val (.int (0 : Int32)), .unset]) rfl ?_
    show Steps p.tables e below (T101.setTop (mkF m 14 #[.val (.ref a1), .val (.long (0 : Int64)), .second, .val (.ref ta), .val (.int (4 : Int32)), .val (.int (0 : Int32)), .unset] [])) _
    refine XS.iload X101.here hx rfl (hb hby d4_14) rfl ?_
    show Steps p.tables e below (T101.setTop (mkF m 16 #[.val (.ref a1), .val (.long (0 : Int64)), .second, .val (.ref ta), .val (.int (4 : Int32)), .val (.int (0 : Int32)), .unset] [(.int (0 : Int32))])) _
    refine XS.iload X101.here hx rfl (hb hby d4_16) rfl ?_
    show Steps p.tables e below (T101.setTop (mkF m 18 #[.val (.ref a1), .val (.long (0 : Int64)), .second, .val (.ref ta), .val (.int (4 : Int32)), .val (.int (0 : Int32)), .unset] [(.int (4 : Int32)), (.int (0 : Int32))])) _
    refine XS.icmpNo X101.here hx rfl (hb hby d4_18) rfl (tlt (by decide)).2.1 ?_
    show Steps p.tables e below (T101.setTop (mkF m 21 #[.val (.ref a1), .val (.long (0 : Int64)), .second, .val (.ref ta), .val (.int (4 : Int32)), .val (.int (0 : Int32)), .unset] [])) _
    refine XS.aloadN X101.here hx rfl (hb hby d4_21) rfl rfl ?_
    show Steps p.tables e below (T101.setTop (mkF m 22 #[.val (.ref a1), .val (.long (0 : Int64)), .second, .val (.ref ta), .val (.int (4 : Int32)), .val (.int (0 : Int32)), .unset] [(.ref ta)])) _
    refine XS.iload X101.here hx rfl (hb hby d4_22) rfl ?_
    show Steps p.tables e below (T101.setTop (mkF m 24 #[.val (.ref a1), .val (.long (0 : Int64)), .second, .val (.ref ta), .val (.int (4 : Int32)), .val (.int (0 : Int32)), .unset] [(.int (0 : Int32)), (.ref ta)])) _
    refine X101.iaload hx (j := (0 : Int32)) (v := (.int x0)) (by rw [e101]; exact Ar.1) (State.isArrayOf_alike hZ.alike Ar.2.1) Ar.2.2 hin0 hat0 (g := (mkF m 24 #[.val (.ref a1), .val (.long (0 : Int64)), .second, .val (.ref ta), .val (.int (4 : Int32)), .val (.int (0 : Int32)), .unset] [(.int (0 : Int32)), (.ref ta)])) rfl rfl (hb hby d4_24) _ ?_
    show Steps p.tables e below (T101.setTop (mkF m 25 #[.val (.ref a1), .val (.long (0 : Int64)), .second, .val (.ref ta), .val (.int (4 : Int32)), .val (.int (0 : Int32)), .unset] [(.int x0)])) _
    refine XS.istore X101.here hx rfl (hb hby d4_25) rfl (l' := #[.val (.ref a1), .val (.long (0 : Int64)), .second, .val (.ref ta), .val (.int (4 : Int32)), .val (.int (0 : Int32)), .val (.int x0)]) rfl ?_
    show Steps p.tables e below (T101.setTop (mkF m 27 #[.val (.ref a1), .val (.long (0 : Int64)), .second, .val (.ref ta), .val (.int (4 : Int32)), .val (.int (0 : Int32)), .val (.int x0)] [])) _
    refine XS.lloadN X101.here hx rfl (hb hby d4_27) rfl ?_
    show Steps p.tables e below (T101.setTop (mkF m 28 #[.val (.ref a1), .val (.long (0 : Int64)), .second, .val (.ref ta), .val (.int (4 : Int32)), .val (.int (0 : Int32)), .val (.int x0)] [(.long (0 : Int64))])) _
    refine XS.iload X101.here hx rfl (hb hby d4_28) rfl ?_
    show Steps p.tables e below (T101.setTop (mkF m 30 #[.val (.ref a1), .val (.long (0 : Int64)), .second, .val (.ref ta), .val (.int (4 : Int32)), .val (.int (0 : Int32)), .val (.int x0)] [(.int x0), (.long (0 : Int64))])) _
    refine XS.i2l X101.here hx rfl (hb hby d4_30) rfl ?_
    show Steps p.tables e below (T101.setTop (mkF m 31 #[.val (.ref a1), .val (.long (0 : Int64)), .second, .val (.ref ta), .val (.int (4 : Int32)), .val (.int (0 : Int32)), .val (.int x0)] [(.long (x0.toInt64)), (.long (0 : Int64))])) _
    refine XS.ladd X101.here hx rfl (hb hby d4_31) rfl ?_
    show Steps p.tables e below (T101.setTop (mkF m 32 #[.val (.ref a1), .val (.long (0 : Int64)), .second, .val (.ref ta), .val (.int (4 : Int32)), .val (.int (0 : Int32)), .val (.int x0)] [(.long ((0 : Int64) + (x0.toInt64)))])) _
    refine XS.lstoreN X101.here hx rfl (hb hby d4_32) rfl (l' := #[.val (.ref a1), .val (.long ((0 : Int64) + (x0.toInt64))), .second, .val (.ref ta), .val (.int (4 : Int32)), .val (.int (0 : Int32)), .val (.int x0)]) rfl ?_
    show Steps p.tables e below (T101.setTop (mkF m 33 #[.val (.ref a1), .val (.long ((0 : Int64) + (x0.toInt64))), .second, .val (.ref ta), .val (.int (4 : Int32)), .val (.int (0 : Int32)), .val (.int x0)] [])) _
    refine XS.iinc X101.here hx rfl (hb hby d4_33) rfl (l' := #[.val (.ref a1), .val (.long ((0 : Int64) + (x0.toInt64))), .second, .val (.ref ta), .val (.int (4 : Int32)), .val (.int ((0 : Int32) + (1 : Int32))), .val (.int x0)]) rfl ?_
    show Steps p.tables e below (T101.setTop (mkF m 36 #[.val (.ref a1), .val (.long ((0 : Int64) + (x0.toInt64))), .second, .val (.ref ta), .val (.int (4 : Int32)), .val (.int ((0 : Int32) + (1 : Int32))), .val (.int x0)] [])) _
    refine XS.goto X101.here hx rfl (pc0 := 36) (pc' := 14) rfl (hb hby d4_36) (by decide) (by decide) ?_
    show Steps p.tables e below (T101.setTop (mkF m 14 #[.val (.ref a1), .val (.long ((0 : Int64) + (x0.toInt64))), .second, .val (.ref ta), .val (.int (4 : Int32)), .val (.int ((0 : Int32) + (1 : Int32))), .val (.int x0)] [])) _
    refine XS.iload X101.here hx rfl (hb hby d4_14) rfl ?_
    show Steps p.tables e below (T101.setTop (mkF m 16 #[.val (.ref a1), .val (.long ((0 : Int64) + (x0.toInt64))), .second, .val (.ref ta), .val (.int (4 : Int32)), .val (.int ((0 : Int32) + (1 : Int32))), .val (.int x0)] [(.int ((0 : Int32) + (1 : Int32)))])) _
    refine XS.iload X101.here hx rfl (hb hby d4_16) rfl ?_
    show Steps p.tables e below (T101.setTop (mkF m 18 #[.val (.ref a1), .val (.long ((0 : Int64) + (x0.toInt64))), .second, .val (.ref ta), .val (.int (4 : Int32)), .val (.int ((0 : Int32) + (1 : Int32))), .val (.int x0)] [(.int (4 : Int32)), (.int ((0 : Int32) + (1 : Int32)))])) _
    refine XS.icmpNo X101.here hx rfl (hb hby d4_18) rfl (tlt (by decide)).2.1 ?_
    show Steps p.tables e below (T101.setTop (mkF m 21 #[.val (.ref a1), .val (.long ((0 : Int64) + (x0.toInt64))), .second, .val (.ref ta), .val (.int (4 : Int32)), .val (.int ((0 : Int32) + (1 : Int32))), .val (.int x0)] [])) _
    refine XS.aloadN X101.here hx rfl (hb hby d4_21) rfl rfl ?_
    show Steps p.tables e below (T101.setTop (mkF m 22 #[.val (.ref a1), .val (.long ((0 : Int64) + (x0.toInt64))), .second, .val (.ref ta), .val (.int (4 : Int32)), .val (.int ((0 : Int32) + (1 : Int32))), .val (.int x0)] [(.ref ta)])) _
    refine XS.iload X101.here hx rfl (hb hby d4_22) rfl ?_
    show Steps p.tables e below (T101.setTop (mkF m 24 #[.val (.ref a1), .val (.long ((0 : Int64) + (x0.toInt64))), .second, .val (.ref ta), .val (.int (4 : Int32)), .val (.int ((0 : Int32) + (1 : Int32))), .val (.int x0)] [(.int ((0 : Int32) + (1 : Int32))), (.ref ta)])) _
    refine X101.iaload hx (j := ((0 : Int32) + (1 : Int32))) (v := (.int x1)) (by rw [e101]; exact Ar.1) (State.isArrayOf_alike hZ.alike Ar.2.1) Ar.2.2 hin1 hat1 (g := (mkF m 24 #[.val (.ref a1), .val (.long ((0 : Int64) + (x0.toInt64))), .second, .val (.ref ta), .val (.int (4 : Int32)), .val (.int ((0 : Int32) + (1 : Int32))), .val (.int x0)] [(.int ((0 : Int32) + (1 : Int32))), (.ref ta)])) rfl rfl (hb hby d4_24) _ ?_
    show Steps p.tables e below (T101.setTop (mkF m 25 #[.val (.ref a1), .val (.long ((0 : Int64) + (x0.toInt64))), .second, .val (.ref ta), .val (.int (4 : Int32)), .val (.int ((0 : Int32) + (1 : Int32))), .val (.int x0)] [(.int x1)])) _
    refine XS.istore X101.here hx rfl (hb hby d4_25) rfl (l' := #[.val (.ref a1), .val (.long ((0 : Int64) + (x0.toInt64))), .second, .val (.ref ta), .val (.int (4 : Int32)), .val (.int ((0 : Int32) + (1 : Int32))), .val (.int x1)]) rfl ?_
    show Steps p.tables e below (T101.setTop (mkF m 27 #[.val (.ref a1), .val (.long ((0 : Int64) + (x0.toInt64))), .second, .val (.ref ta), .val (.int (4 : Int32)), .val (.int ((0 : Int32) + (1 : Int32))), .val (.int x1)] [])) _
    refine XS.lloadN X101.here hx rfl (hb hby d4_27) rfl ?_
    show Steps p.tables e below (T101.setTop (mkF m 28 #[.val (.ref a1), .val (.long ((0 : Int64) + (x0.toInt64))), .second, .val (.ref ta), .val (.int (4 : Int32)), .val (.int ((0 : Int32) + (1 : Int32))), .val (.int x1)] [(.long ((0 : Int64) + (x0.toInt64)))])) _
    refine XS.iload X101.here hx rfl (hb hby d4_28) rfl ?_
    show Steps p.tables e below (T101.setTop (mkF m 30 #[.val (.ref a1), .val (.long ((0 : Int64) + (x0.toInt64))), .second, .val (.ref ta), .val (.int (4 : Int32)), .val (.int ((0 : Int32) + (1 : Int32))), .val (.int x1)] [(.int x1), (.long ((0 : Int64) + (x0.toInt64)))])) _
    refine XS.i2l X101.here hx rfl (hb hby d4_30) rfl ?_
    show Steps p.tables e below (T101.setTop (mkF m 31 #[.val (.ref a1), .val (.long ((0 : Int64) + (x0.toInt64))), .second, .val (.ref ta), .val (.int (4 : Int32)), .val (.int ((0 : Int32) + (1 : Int32))), .val (.int x1)] [(.long (x1.toInt64)), (.long ((0 : Int64) + (x0.toInt64)))])) _
    refine XS.ladd X101.here hx rfl (hb hby d4_31) rfl ?_
    show Steps p.tables e below (T101.setTop (mkF m 32 #[.val (.ref a1), .val (.long ((0 : Int64) + (x0.toInt64))), .second, .val (.ref ta), .val (.int (4 : Int32)), .val (.int ((0 : Int32) + (1 : Int32))), .val (.int x1)] [(.long (((0 : Int64) + (x0.toInt64)) + (x1.toInt64)))])) _
    refine XS.lstoreN X101.here hx rfl (hb hby d4_32) rfl (l' := #[.val (.ref a1), .val (.long (((0 : Int64) + (x0.toInt64)) + (x1.toInt64))), .second, .val (.ref ta), .val (.int (4 : Int32)), .val (.int ((0 : Int32) + (1 : Int32))), .val (.int x1)]) rfl ?_
    show Steps p.tables e below (T101.setTop (mkF m 33 #[.val (.ref a1), .val (.long (((0 : Int64) + (x0.toInt64)) + (x1.toInt64))), .second, .val (.ref ta), .val (.int (4 : Int32)), .val (.int ((0 : Int32) + (1 : Int32))), .val (.int x1)] [])) _
    refine XS.iinc X101.here hx rfl (hb hby d4_33) rfl (l' := #[.val (.ref a1), .val (.long (((0 : Int64) + (x0.toInt64)) + (x1.toInt64))), .second, .val (.ref ta), .val (.int (4 : Int32)), .val (.int (((0 : Int32) + (1 : Int32)) + (1 : Int32))), .val (.int x1)]) rfl ?_
    show Steps p.tables e below (T101.setTop (mkF m 36 #[.val (.ref a1), .val (.long (((0 : Int64) + (x0.toInt64)) + (x1.toInt64))), .second, .val (.ref ta), .val (.int (4 : Int32)), .val (.int (((0 : Int32) + (1 : Int32)) + (1 : Int32))), .val (.int x1)] [])) _
    refine XS.goto X101.here hx rfl (pc0 := 36) (pc' := 14) rfl (hb hby d4_36) (by decide) (by decide) ?_
    show Steps p.tables e below (T101.setTop (mkF m 14 #[.val (.ref a1), .val (.long (((0 : Int64) + (x0.toInt64)) + (x1.toInt64))), .second, .val (.ref ta), .val (.int (4 : Int32)), .val (.int (((0 : Int32) + (1 : Int32)) + (1 : Int32))), .val (.int x1)] [])) _
    refine XS.iload X101.here hx rfl (hb hby d4_14) rfl ?_
    show Steps p.tables e below (T101.setTop (mkF m 16 #[.val (.ref a1), .val (.long (((0 : Int64) + (x0.toInt64)) + (x1.toInt64))), .second, .val (.ref ta), .val (.int (4 : Int32)), .val (.int (((0 : Int32) + (1 : Int32)) + (1 : Int32))), .val (.int x1)] [(.int (((0 : Int32) + (1 : Int32)) + (1 : Int32)))])) _
    refine XS.iload X101.here hx rfl (hb hby d4_16) rfl ?_
    show Steps p.tables e below (T101.setTop (mkF m 18 #[.val (.ref a1), .val (.long (((0 : Int64) + (x0.toInt64)) + (x1.toInt64))), .second, .val (.ref ta), .val (.int (4 : Int32)), .val (.int (((0 : Int32) + (1 : Int32)) + (1 : Int32))), .val (.int x1)] [(.int (4 : Int32)), (.int (((0 : Int32) + (1 : Int32)) + (1 : Int32)))])) _
    refine XS.icmpNo X101.here hx rfl (hb hby d4_18) rfl (tlt (by decide)).2.1 ?_
    show Steps p.tables e below (T101.setTop (mkF m 21 #[.val (.ref a1), .val (.long (((0 : Int64) + (x0.toInt64)) + (x1.toInt64))), .second, .val (.ref ta), .val (.int (4 : Int32)), .val (.int (((0 : Int32) + (1 : Int32)) + (1 : Int32))), .val (.int x1)] [])) _
    refine XS.aloadN X101.here hx rfl (hb hby d4_21) rfl rfl ?_
    show Steps p.tables e below (T101.setTop (mkF m 22 #[.val (.ref a1), .val (.long (((0 : Int64) + (x0.toInt64)) + (x1.toInt64))), .second, .val (.ref ta), .val (.int (4 : Int32)), .val (.int (((0 : Int32) + (1 : Int32)) + (1 : Int32))), .val (.int x1)] [(.ref ta)])) _
    refine XS.iload X101.here hx rfl (hb hby d4_22) rfl ?_
    show Steps p.tables e below (T101.setTop (mkF m 24 #[.val (.ref a1), .val (.long (((0 : Int64) + (x0.toInt64)) + (x1.toInt64))), .second, .val (.ref ta), .val (.int (4 : Int32)), .val (.int (((0 : Int32) + (1 : Int32)) + (1 : Int32))), .val (.int x1)] [(.int (((0 : Int32) + (1 : Int32)) + (1 : Int32))), (.ref ta)])) _
    refine X101.iaload hx (j := (((0 : Int32) + (1 : Int32)) + (1 : Int32))) (v := (.int x2)) (by rw [e101]; exact Ar.1) (State.isArrayOf_alike hZ.alike Ar.2.1) Ar.2.2 hin2 hat2 (g := (mkF m 24 #[.val (.ref a1), .val (.long (((0 : Int64) + (x0.toInt64)) + (x1.toInt64))), .second, .val (.ref ta), .val (.int (4 : Int32)), .val (.int (((0 : Int32) + (1 : Int32)) + (1 : Int32))), .val (.int x1)] [(.int (((0 : Int32) + (1 : Int32)) + (1 : Int32))), (.ref ta)])) rfl rfl (hb hby d4_24) _ ?_
    show Steps p.tables e below (T101.setTop (mkF m 25 #[.val (.ref a1), .val (.long (((0 : Int64) + (x0.toInt64)) + (x1.toInt64))), .second, .val (.ref ta), .val (.int (4 : Int32)), .val (.int (((0 : Int32) + (1 : Int32)) + (1 : Int32))), .val (.int x1)] [(.int x2)])) _
    refine XS.istore X101.here hx rfl (hb hby d4_25) rfl (l' := #[.val (.ref a1), .val (.long (((0 : Int64) + (x0.toInt64)) + (x1.toInt64))), .second, .val (.ref ta), .val (.int (4 : Int32)), .val (.int (((0 : Int32) + (1 : Int32)) + (1 : Int32))), .val (.int x2)]) rfl ?_
    show Steps p.tables e below (T101.setTop (mkF m 27 #[.val (.ref a1), .val (.long (((0 : Int64) + (x0.toInt64)) + (x1.toInt64))), .second, .val (.ref ta), .val (.int (4 : Int32)), .val (.int (((0 : Int32) + (1 : Int32)) + (1 : Int32))), .val (.int x2)] [])) _
    refine XS.lloadN X101.here hx rfl (hb hby d4_27) rfl ?_
    show Steps p.tables e below (T101.setTop (mkF m 28 #[.val (.ref a1), .val (.long (((0 : Int64) + (x0.toInt64)) + (x1.toInt64))), .second, .val (.ref ta), .val (.int (4 : Int32)), .val (.int (((0 : Int32) + (1 : Int32)) + (1 : Int32))), .val (.int x2)] [(.long (((0 : Int64) + (x0.toInt64)) + (x1.toInt64)))])) _
    refine XS.iload X101.here hx rfl (hb hby d4_28) rfl ?_
    show Steps p.tables e below (T101.setTop (mkF m 30 #[.val (.ref a1), .val (.long (((0 : Int64) + (x0.toInt64)) + (x1.toInt64))), .second, .val (.ref ta), .val (.int (4 : Int32)), .val (.int (((0 : Int32) + (1 : Int32)) + (1 : Int32))), .val (.int x2)] [(.int x2), (.long (((0 : Int64) + (x0.toInt64)) + (x1.toInt64)))])) _
    refine XS.i2l X101.here hx rfl (hb hby d4_30) rfl ?_
    show Steps p.tables e below (T101.setTop (mkF m 31 #[.val (.ref a1), .val (.long (((0 : Int64) + (x0.toInt64)) + (x1.toInt64))), .second, .val (.ref ta), .val (.int (4 : Int32)), .val (.int (((0 : Int32) + (1 : Int32)) + (1 : Int32))), .val (.int x2)] [(.long (x2.toInt64)), (.long (((0 : Int64) + (x0.toInt64)) + (x1.toInt64)))])) _
    refine XS.ladd X101.here hx rfl (hb hby d4_31) rfl ?_
    show Steps p.tables e below (T101.setTop (mkF m 32 #[.val (.ref a1), .val (.long (((0 : Int64) + (x0.toInt64)) + (x1.toInt64))), .second, .val (.ref ta), .val (.int (4 : Int32)), .val (.int (((0 : Int32) + (1 : Int32)) + (1 : Int32))), .val (.int x2)] [(.long ((((0 : Int64) + (x0.toInt64)) + (x1.toInt64)) + (x2.toInt64)))])) _
    refine XS.lstoreN X101.here hx rfl (hb hby d4_32) rfl (l' := #[.val (.ref a1), .val (.long ((((0 : Int64) + (x0.toInt64)) + (x1.toInt64)) + (x2.toInt64))), .second, .val (.ref ta), .val (.int (4 : Int32)), .val (.int (((0 : Int32) + (1 : Int32)) + (1 : Int32))), .val (.int x2)]) rfl ?_
    show Steps p.tables e below (T101.setTop (mkF m 33 #[.val (.ref a1), .val (.long ((((0 : Int64) + (x0.toInt64)) + (x1.toInt64)) + (x2.toInt64))), .second, .val (.ref ta), .val (.int (4 : Int32)), .val (.int (((0 : Int32) + (1 : Int32)) + (1 : Int32))), .val (.int x2)] [])) _
    refine XS.iinc X101.here hx rfl (hb hby d4_33) rfl (l' := #[.val (.ref a1), .val (.long ((((0 : Int64) + (x0.toInt64)) + (x1.toInt64)) + (x2.toInt64))), .second, .val (.ref ta), .val (.int (4 : Int32)), .val (.int ((((0 : Int32) + (1 : Int32)) + (1 : Int32)) + (1 : Int32))), .val (.int x2)]) rfl ?_
    show Steps p.tables e below (T101.setTop (mkF m 36 #[.val (.ref a1), .val (.long ((((0 : Int64) + (x0.toInt64)) + (x1.toInt64)) + (x2.toInt64))), .second, .val (.ref ta), .val (.int (4 : Int32)), .val (.int ((((0 : Int32) + (1 : Int32)) + (1 : Int32)) + (1 : Int32))), .val (.int x2)] [])) _
    refine XS.goto X101.here hx rfl (pc0 := 36) (pc' := 14) rfl (hb hby d4_36) (by decide) (by decide) ?_
    show Steps p.tables e below (T101.setTop (mkF m 14 #[.val (.ref a1), .val (.long ((((0 : Int64) + (x0.toInt64)) + (x1.toInt64)) + (x2.toInt64))), .second, .val (.ref ta), .val (.int (4 : Int32)), .val (.int ((((0 : Int32) + (1 : Int32)) + (1 : Int32)) + (1 : Int32))), .val (.int x2)] [])) _
    refine XS.iload X101.here hx rfl (hb hby d4_14) rfl ?_
    show Steps p.tables e below (T101.setTop (mkF m 16 #[.val (.ref a1), .val (.long ((((0 : Int64) + (x0.toInt64)) + (x1.toInt64)) + (x2.toInt64))), .second, .val (.ref ta), .val (.int (4 : Int32)), .val (.int ((((0 : Int32) + (1 : Int32)) + (1 : Int32)) + (1 : Int32))), .val (.int x2)] [(.int ((((0 : Int32) + (1 : Int32)) + (1 : Int32)) + (1 : Int32)))])) _
    refine XS.iload X101.here hx rfl (hb hby d4_16) rfl ?_
    show Steps p.tables e below (T101.setTop (mkF m 18 #[.val (.ref a1), .val (.long ((((0 : Int64) + (x0.toInt64)) + (x1.toInt64)) + (x2.toInt64))), .second, .val (.ref ta), .val (.int (4 : Int32)), .val (.int ((((0 : Int32) + (1 : Int32)) + (1 : Int32)) + (1 : Int32))), .val (.int x2)] [(.int (4 : Int32)), (.int ((((0 : Int32) + (1 : Int32)) + (1 : Int32)) + (1 : Int32)))])) _
    refine XS.icmpNo X101.here hx rfl (hb hby d4_18) rfl (tlt (by decide)).2.1 ?_
    show Steps p.tables e below (T101.setTop (mkF m 21 #[.val (.ref a1), .val (.long ((((0 : Int64) + (x0.toInt64)) + (x1.toInt64)) + (x2.toInt64))), .second, .val (.ref ta), .val (.int (4 : Int32)), .val (.int ((((0 : Int32) + (1 : Int32)) + (1 : Int32)) + (1 : Int32))), .val (.int x2)] [])) _
    refine XS.aloadN X101.here hx rfl (hb hby d4_21) rfl rfl ?_
    show Steps p.tables e below (T101.setTop (mkF m 22 #[.val (.ref a1), .val (.long ((((0 : Int64) + (x0.toInt64)) + (x1.toInt64)) + (x2.toInt64))), .second, .val (.ref ta), .val (.int (4 : Int32)), .val (.int ((((0 : Int32) + (1 : Int32)) + (1 : Int32)) + (1 : Int32))), .val (.int x2)] [(.ref ta)])) _
    refine XS.iload X101.here hx rfl (hb hby d4_22) rfl ?_
    show Steps p.tables e below (T101.setTop (mkF m 24 #[.val (.ref a1), .val (.long ((((0 : Int64) + (x0.toInt64)) + (x1.toInt64)) + (x2.toInt64))), .second, .val (.ref ta), .val (.int (4 : Int32)), .val (.int ((((0 : Int32) + (1 : Int32)) + (1 : Int32)) + (1 : Int32))), .val (.int x2)] [(.int ((((0 : Int32) + (1 : Int32)) + (1 : Int32)) + (1 : Int32))), (.ref ta)])) _
    refine X101.iaload hx (j := ((((0 : Int32) + (1 : Int32)) + (1 : Int32)) + (1 : Int32))) (v := (.int x3)) (by rw [e101]; exact Ar.1) (State.isArrayOf_alike hZ.alike Ar.2.1) Ar.2.2 hin3 hat3 (g := (mkF m 24 #[.val (.ref a1), .val (.long ((((0 : Int64) + (x0.toInt64)) + (x1.toInt64)) + (x2.toInt64))), .second, .val (.ref ta), .val (.int (4 : Int32)), .val (.int ((((0 : Int32) + (1 : Int32)) + (1 : Int32)) + (1 : Int32))), .val (.int x2)] [(.int ((((0 : Int32) + (1 : Int32)) + (1 : Int32)) + (1 : Int32))), (.ref ta)])) rfl rfl (hb hby d4_24) _ ?_
    show Steps p.tables e below (T101.setTop (mkF m 25 #[.val (.ref a1), .val (.long ((((0 : Int64) + (x0.toInt64)) + (x1.toInt64)) + (x2.toInt64))), .second, .val (.ref ta), .val (.int (4 : Int32)), .val (.int ((((0 : Int32) + (1 : Int32)) + (1 : Int32)) + (1 : Int32))), .val (.int x2)] [(.int x3)])) _
    refine XS.istore X101.here hx rfl (hb hby d4_25) rfl (l' := #[.val (.ref a1), .val (.long ((((0 : Int64) + (x0.toInt64)) + (x1.toInt64)) + (x2.toInt64))), .second, .val (.ref ta), .val (.int (4 : Int32)), .val (.int ((((0 : Int32) + (1 : Int32)) + (1 : Int32)) + (1 : Int32))), .val (.int x3)]) rfl ?_
    show Steps p.tables e below (T101.setTop (mkF m 27 #[.val (.ref a1), .val (.long ((((0 : Int64) + (x0.toInt64)) + (x1.toInt64)) + (x2.toInt64))), .second, .val (.ref ta), .val (.int (4 : Int32)), .val (.int ((((0 : Int32) + (1 : Int32)) + (1 : Int32)) + (1 : Int32))), .val (.int x3)] [])) _
    refine XS.lloadN X101.here hx rfl (hb hby d4_27) rfl ?_
    show Steps p.tables e below (T101.setTop (mkF m 28 #[.val (.ref a1), .val (.long ((((0 : Int64) + (x0.toInt64)) + (x1.toInt64)) + (x2.toInt64))), .second, .val (.ref ta), .val (.int (4 : Int32)), .val (.int ((((0 : Int32) + (1 : Int32)) + (1 : Int32)) + (1 : Int32))), .val (.int x3)] [(.long ((((0 : Int64) + (x0.toInt64)) + (x1.toInt64)) + (x2.toInt64)))])) _
    refine XS.iload X101.here hx rfl (hb hby d4_28) rfl ?_
    show Steps p.tables e below (T101.setTop (mkF m 30 #[.val (.ref a1), .val (.long ((((0 : Int64) + (x0.toInt64)) + (x1.toInt64)) + (x2.toInt64))), .second, .val (.ref ta), .val (.int (4 : Int32)), .val (.int ((((0 : Int32) + (1 : Int32)) + (1 : Int32)) + (1 : Int32))), .val (.int x3)] [(.int x3), (.long ((((0 : Int64) + (x0.toInt64)) + (x1.toInt64)) + (x2.toInt64)))])) _
    refine XS.i2l X101.here hx rfl (hb hby d4_30) rfl ?_
    show Steps p.tables e below (T101.setTop (mkF m 31 #[.val (.ref a1), .val (.long ((((0 : Int64) + (x0.toInt64)) + (x1.toInt64)) + (x2.toInt64))), .second, .val (.ref ta), .val (.int (4 : Int32)), .val (.int ((((0 : Int32) + (1 : Int32)) + (1 : Int32)) + (1 : Int32))), .val (.int x3)] [(.long (x3.toInt64)), (.long ((((0 : Int64) + (x0.toInt64)) + (x1.toInt64)) + (x2.toInt64)))])) _
    refine XS.ladd X101.here hx rfl (hb hby d4_31) rfl ?_
    show Steps p.tables e below (T101.setTop (mkF m 32 #[.val (.ref a1), .val (.long ((((0 : Int64) + (x0.toInt64)) + (x1.toInt64)) + (x2.toInt64))), .second, .val (.ref ta), .val (.int (4 : Int32)), .val (.int ((((0 : Int32) + (1 : Int32)) + (1 : Int32)) + (1 : Int32))), .val (.int x3)] [(.long (((((0 : Int64) + (x0.toInt64)) + (x1.toInt64)) + (x2.toInt64)) + (x3.toInt64)))])) _
    refine XS.lstoreN X101.here hx rfl (hb hby d4_32) rfl (l' := #[.val (.ref a1), .val (.long (((((0 : Int64) + (x0.toInt64)) + (x1.toInt64)) + (x2.toInt64)) + (x3.toInt64))), .second, .val (.ref ta), .val (.int (4 : Int32)), .val (.int ((((0 : Int32) + (1 : Int32)) + (1 : Int32)) + (1 : Int32))), .val (.int x3)]) rfl ?_
    show Steps p.tables e below (T101.setTop (mkF m 33 #[.val (.ref a1), .val (.long (((((0 : Int64) + (x0.toInt64)) + (x1.toInt64)) + (x2.toInt64)) + (x3.toInt64))), .second, .val (.ref ta), .val (.int (4 : Int32)), .val (.int ((((0 : Int32) + (1 : Int32)) + (1 : Int32)) + (1 : Int32))), .val (.int x3)] [])) _
    refine XS.iinc X101.here hx rfl (hb hby d4_33) rfl (l' := #[.val (.ref a1), .val (.long (((((0 : Int64) + (x0.toInt64)) + (x1.toInt64)) + (x2.toInt64)) + (x3.toInt64))), .second, .val (.ref ta), .val (.int (4 : Int32)), .val (.int (((((0 : Int32) + (1 : Int32)) + (1 : Int32)) + (1 : Int32)) + (1 : Int32))), .val (.int x3)]) rfl ?_
    show Steps p.tables e below (T101.setTop (mkF m 36 #[.val (.ref a1), .val (.long (((((0 : Int64) + (x0.toInt64)) + (x1.toInt64)) + (x2.toInt64)) + (x3.toInt64))), .second, .val (.ref ta), .val (.int (4 : Int32)), .val (.int (((((0 : Int32) + (1 : Int32)) + (1 : Int32)) + (1 : Int32)) + (1 : Int32))), .val (.int x3)] [])) _
    refine XS.goto X101.here hx rfl (pc0 := 36) (pc' := 14) rfl (hb hby d4_36) (by decide) (by decide) ?_
    show Steps p.tables e below (T101.setTop (mkF m 14 #[.val (.ref a1), .val (.long (((((0 : Int64) + (x0.toInt64)) + (x1.toInt64)) + (x2.toInt64)) + (x3.toInt64))), .second, .val (.ref ta), .val (.int (4 : Int32)), .val (.int (((((0 : Int32) + (1 : Int32)) + (1 : Int32)) + (1 : Int32)) + (1 : Int32))), .val (.int x3)] [])) _
    refine XS.iload X101.here hx rfl (hb hby d4_14) rfl ?_
    show Steps p.tables e below (T101.setTop (mkF m 16 #[.val (.ref a1), .val (.long (((((0 : Int64) + (x0.toInt64)) + (x1.toInt64)) + (x2.toInt64)) + (x3.toInt64))), .second, .val (.ref ta), .val (.int (4 : Int32)), .val (.int (((((0 : Int32) + (1 : Int32)) + (1 : Int32)) + (1 : Int32)) + (1 : Int32))), .val (.int x3)] [(.int (((((0 : Int32) + (1 : Int32)) + (1 : Int32)) + (1 : Int32)) + (1 : Int32)))])) _
    refine XS.iload X101.here hx rfl (hb hby d4_16) rfl ?_
    show Steps p.tables e below (T101.setTop (mkF m 18 #[.val (.ref a1), .val (.long (((((0 : Int64) + (x0.toInt64)) + (x1.toInt64)) + (x2.toInt64)) + (x3.toInt64))), .second, .val (.ref ta), .val (.int (4 : Int32)), .val (.int (((((0 : Int32) + (1 : Int32)) + (1 : Int32)) + (1 : Int32)) + (1 : Int32))), .val (.int x3)] [(.int (4 : Int32)), (.int (((((0 : Int32) + (1 : Int32)) + (1 : Int32)) + (1 : Int32)) + (1 : Int32)))])) _
    refine XS.icmpYes X101.here hx rfl (pc0 := 18) (pc' := 39) rfl (hb hby d4_18) rfl (flt (by decide)).2.1 (by decide) (by decide) ?_
    show Steps p.tables e below (T101.setTop (mkF m 39 #[.val (.ref a1), .val (.long (((((0 : Int64) + (x0.toInt64)) + (x1.toInt64)) + (x2.toInt64)) + (x3.toInt64))), .second, .val (.ref ta), .val (.int (4 : Int32)), .val (.int (((((0 : Int32) + (1 : Int32)) + (1 : Int32)) + (1 : Int32)) + (1 : Int32))), .val (.int x3)] [])) _
    refine XS.lloadN X101.here hx rfl (hb hby d4_39) rfl ?_
    exact k_)
  obtain ⟨fs, hr, hrun, hended, hW, hsame⟩ := X101.leave (v := some (.long (((((0 : Int64) + (x0.toInt64)) + (x1.toInt64)) + (x2.toInt64)) + (x3.toInt64)))) (fun h => by rw [Bd.returns] at h; cases h)
  refine ⟨_, _, pre102 _ ?_, hrun, hended, _, _, rfl, ?_, ⟨_, rfl⟩, hW, hsame.mono (by decide) (by decide)⟩
  · show Steps p.tables e below (T101.setTop (mkF m 40 #[.val (.ref a1), .val (.long (((((0 : Int64) + (x0.toInt64)) + (x1.toInt64)) + (x2.toInt64)) + (x3.toInt64))), .second, .val (.ref ta), .val (.int (4 : Int32)), .val (.int (((((0 : Int32) + (1 : Int32)) + (1 : Int32)) + (1 : Int32)) + (1 : Int32))), .val (.int x3)] [(.long (((((0 : Int64) + (x0.toInt64)) + (x1.toInt64)) + (x2.toInt64)) + (x3.toInt64)))])) _
    exact retJ X101 hx Bd.returns (hb hby d4_40) hr
  · show QrmF4 Z a1 ta kx x0 x1 x2 x3 h0 n0 _ T101.heap _
    rw [e101]
    exact ⟨rfl, N0, rfl⟩
theorem pd_0 : parseMethodDescriptor "(I)I" = some ⟨[.int], some .int⟩ := by decide +kernel
theorem pd_1 : parseMethodDescriptor "([I[I)V" = some ⟨[(.array .int), (.array .int)], none⟩ := by decide +kernel
theorem pd_2 : parseMethodDescriptor "()J" = some ⟨[], some .long⟩ := by decide +kernel
theorem ef_rm0 (m : MethodId) (x0 : Int32) (x1 : Int32) (x2 : Int32) (x3 : Int32) (x4 : Int32) : entryFrame m #[(.int x0), (.int x1), (.int x2), (.int x3), (.int x4)] maxLocals = mkF m 0 #[.val (.int x0), .val (.int x1), .val (.int x2), .val (.int x3), .val (.int x4), .unset, .unset, .unset, .unset, .unset, .unset, .unset, .unset, .unset, .unset, .unset, .unset, .unset, .unset] [] := by first | (simp [entryFrame, mkF, argsToLocals, Value.category, maxLocals]; done) | rfl
def Qrm0 (Z : State) (p1 : Int32) (p2 : Int32) (p3 : Int32) (p4 : Int32) (p5 : Int32) (h0 : Heap) (n0 : Nat) (v : Option Value) (h : Heap) (L : List Loc) : Prop := v = some (.int 1) ∧ Fr n0 L
set_option maxRecDepth 65536 in
set_option maxHeartbeats 40000000 in
theorem rm0 (l : Launch) (Z : State) (a0 : Array Value) (hw : ∀ d ∈ tables_1, d.before a0 Z = true) (ws : List Jvm.Cond) (p1 : Int32) (p2 : Int32) (p3 : Int32) (p4 : Int32) (p5 : Int32) (h0 : Heap) (n0 : Nat) (Z0 : n0 ≤ h0.size) :
    MetFree l x (head1 (Jvm.Cond.code x code maxLocals ret :: ws) room_1) (fun a U => a = #[(.int p1), (.int p2), (.int p3), (.int p4), (.int p5)] ∧ Z.Warmed39 U.vm ∧ U.heap = h0) (fun _ _ _ _ _ => True) (fun _ U o U' => ∃ v L, o = .returned v ∧ Qrm0 Z p1 p2 p3 p4 p5 h0 n0 v U'.heap L ∧ FrameEnd U o U' L room_1.cells room_1.slots) := by
  refine MetFree.of_bodySF (plainFor_of_name pn_0) hisR ?_
  intro p e s m args below meth c s₁ Bd hml0 hP hK
  obtain ⟨rfl, hZ, hh⟩ := hP
  have hx := Bd.exec
  have hby := Bd.bytes
  have hml : c.maxLocals = 19 := hml0
  have hown : s.vm.findClass "com/example/cranfield/cranfield/index/PostingsCollectionFrequencyPinLaw" = some m.cls := findClass_of_methodNamed Bd.named
  have hnm := (name_of_methodNamed Bd.named Bd.method).1
  have X0 : Stand p l e room_1 s m #[(.int p1), (.int p2), (.int p3), (.int p4), (.int p5)] below meth c s₁ [] 0 0 := Stand.of_body Bd
  have e0 : s₁.heap = h0 := by rw [← hh, Bd.state]; rfl
  have N0 := Fr.nil n0
  have pre0 : ∀ t_, Steps p.tables e below (s₁.setTop (mkF m 0 #[.val (.int p1), .val (.int p2), .val (.int p3), .val (.int p4), .val (.int p5), .unset, .unset, .unset, .unset, .unset, .unset, .unset, .unset, .unset, .unset, .unset, .unset, .unset, .unset] [])) t_ → Steps p.tables e below (s₁.setTop (entryFrame m #[(.int p1), (.int p2), (.int p3), (.int p4), (.int p5)] maxLocals)) t_ := fun t_ k_ => castTop (ef_rm0 m p1 p2 p3 p4 p5) k_
  obtain ⟨n, hv_n, pre101⟩ : ∃ z_ : Int32, z_ = ((p1 &&& (2147483647 : Int32)) % (5 : Int32)) ∧ ∀ t_, Steps p.tables e below (s₁.setTop (mkF m 8 #[.val (.int p1), .val (.int p2), .val (.int p3), .val (.int p4), .val (.int p5), .val (.int z_), .unset, .unset, .unset, .unset, .unset, .unset, .unset, .unset, .unset, .unset, .unset, .unset, .unset] [])) t_ → Steps p.tables e below (s₁.setTop (entryFrame m #[(.int p1), (.int p2), (.int p3), (.int p4), (.int p5)] maxLocals)) t_ := ⟨_, rfl, fun t_ k_ => pre0 _ (by
    show Steps p.tables e below (s₁.setTop (mkF m 0 #[.val (.int p1), .val (.int p2), .val (.int p3), .val (.int p4), .val (.int p5), .unset, .unset, .unset, .unset, .unset, .unset, .unset, .unset, .unset, .unset, .unset, .unset, .unset, .unset] [])) _
    refine XS.iloadN X0.here hx rfl (hb hby at_0) rfl ?_
    show Steps p.tables e below (s₁.setTop (mkF m 1 #[.val (.int p1), .val (.int p2), .val (.int p3), .val (.int p4), .val (.int p5), .unset, .unset, .unset, .unset, .unset, .unset, .unset, .unset, .unset, .unset, .unset, .unset, .unset, .unset] [(.int p1)])) _
    refine X0.ldcInt hx hown (mvT hZ (hw _ (List.mem_of_getElem? (i := 0) rfl))) (g := (mkF m 1 #[.val (.int p1), .val (.int p2), .val (.int p3), .val (.int p4), .val (.int p5), .unset, .unset, .unset, .unset, .unset, .unset, .unset, .unset, .unset, .unset, .unset, .unset, .unset, .unset] [(.int p1)])) rfl (hb hby at_1) _ ?_
    show Steps p.tables e below (s₁.setTop (mkF m 3 #[.val (.int p1), .val (.int p2), .val (.int p3), .val (.int p4), .val (.int p5), .unset, .unset, .unset, .unset, .unset, .unset, .unset, .unset, .unset, .unset, .unset, .unset, .unset, .unset] [(.int (2147483647 : Int32)), (.int p1)])) _
    refine XS.iand X0.here hx rfl (hb hby at_3) rfl ?_
    show Steps p.tables e below (s₁.setTop (mkF m 4 #[.val (.int p1), .val (.int p2), .val (.int p3), .val (.int p4), .val (.int p5), .unset, .unset, .unset, .unset, .unset, .unset, .unset, .unset, .unset, .unset, .unset, .unset, .unset, .unset] [(.int (p1 &&& (2147483647 : Int32)))])) _
    refine XS.iconst X0.here hx rfl (hb hby at_4) ?_
    show Steps p.tables e below (s₁.setTop (mkF m 5 #[.val (.int p1), .val (.int p2), .val (.int p3), .val (.int p4), .val (.int p5), .unset, .unset, .unset, .unset, .unset, .unset, .unset, .unset, .unset, .unset, .unset, .unset, .unset, .unset] [(.int (5 : Int32)), (.int (p1 &&& (2147483647 : Int32)))])) _
    refine iremM X0 hx rfl (hb hby at_5) rfl (by decide) ?_
    show Steps p.tables e below (s₁.setTop (mkF m 6 #[.val (.int p1), .val (.int p2), .val (.int p3), .val (.int p4), .val (.int p5), .unset, .unset, .unset, .unset, .unset, .unset, .unset, .unset, .unset, .unset, .unset, .unset, .unset, .unset] [(.int ((p1 &&& (2147483647 : Int32)) % (5 : Int32)))])) _
    refine XS.istore X0.here hx rfl (hb hby at_6) rfl (l' := #[.val (.int p1), .val (.int p2), .val (.int p3), .val (.int p4), .val (.int p5), .val (.int ((p1 &&& (2147483647 : Int32)) % (5 : Int32))), .unset, .unset, .unset, .unset, .unset, .unset, .unset, .unset, .unset, .unset, .unset, .unset, .unset]) rfl ?_
    exact k_)⟩
  have hn : n = 0 ∨ n = 1 ∨ n = 2 ∨ n = 3 ∨ n = 4 := by rw [hv_n]; exact own_k5 p1
  obtain ⟨_, _, ⟨T102, L102, k102, n102⟩, -, X102, ⟨Lc102, hQ102, l102, y102, z102⟩, st102⟩ := Jvm.LawKit.callS X0 hx (y := (⟨"com/example/cranfield/cranfield/index/PostingsCollectionFrequencyPinLaw", "pos", "(I)I"⟩ : MethodName)) hown (mvT hZ (hw _ (List.mem_of_getElem? (i := 1) rfl))) (mvT hZ (hw _ (List.mem_of_getElem? (i := 2) rfl))) (mvT hZ (hw _ (List.mem_of_getElem? (i := 3) rfl))) (mvT hZ (hw _ (List.mem_of_getElem? (i := 4) rfl))) (by decide) (backOf (W := 0) (rmP l Z a0 hw [] p2 h0 n0 Z0 ) hZ (hw _ (List.mem_of_getElem? (i := 4) rfl)) (hw _ (List.mem_of_getElem? (i := 3) rfl)) (by decide) (by decide)) (g := (mkF m 9 #[.val (.int p1), .val (.int p2), .val (.int p3), .val (.int p4), .val (.int p5), .val (.int n), .unset, .unset, .unset, .unset, .unset, .unset, .unset, .unset, .unset, .unset, .unset, .unset, .unset] [(.int p2)])) rfl (by rw [hml]; rfl) (argsL := [(.int p2)]) (rest := []) (lenOf pd_0 rfl) rfl (by show 2 * 0 + _ ≤ _; exact Nat.le_of_eq rfl) (hb hby at_9) (fun _ _ => ⟨rfl, e0, (by decide : 0 + 0 ≤ _), (by decide : 0 + 0 ≤ _)⟩)
  dsimp only [Pt.U, Pt.locs, Pt.cells, Pt.slots] at X102 l102 y102 z102 st102 hQ102
  subst l102 y102 z102
  obtain ⟨rfl, N102q, e102⟩ := hQ102
  have N102 := Fr.app N0 N102q
  obtain ⟨u, hv_u, pre103⟩ : ∃ z_ : Int32, z_ = (own_pos p2) ∧ ∀ t_, Steps p.tables e below (T102.setTop (mkF m 12 #[.val (.int p1), .val (.int p2), .val (.int p3), .val (.int p4), .val (.int p5), .val (.int n), .unset, .unset, .unset, .unset, .unset, .unset, .unset, .unset, .unset, .unset, .unset, .unset, .unset] [(.int z_)])) t_ → Steps p.tables e below (s₁.setTop (entryFrame m #[(.int p1), (.int p2), (.int p3), (.int p4), (.int p5)] maxLocals)) t_ := ⟨_, rfl, fun t_ k_ => pre101 _ (by
    show Steps p.tables e below (s₁.setTop (mkF m 8 #[.val (.int p1), .val (.int p2), .val (.int p3), .val (.int p4), .val (.int p5), .val (.int n), .unset, .unset, .unset, .unset, .unset, .unset, .unset, .unset, .unset, .unset, .unset, .unset, .unset] [])) _
    refine XS.iloadN X0.here hx rfl (hb hby at_8) rfl ?_
    show Steps p.tables e below (s₁.setTop (mkF m 9 #[.val (.int p1), .val (.int p2), .val (.int p3), .val (.int p4), .val (.int p5), .val (.int n), .unset, .unset, .unset, .unset, .unset, .unset, .unset, .unset, .unset, .unset, .unset, .unset, .unset] [(.int p2)])) _
    refine st102 _ ?_
    exact k_)⟩
  obtain ⟨_, _, ⟨T104, L104, k104, n104⟩, -, X104, ⟨Lc104, hQ104, l104, y104, z104⟩, st104⟩ := Jvm.LawKit.callS X102 hx (y := (⟨"com/example/cranfield/cranfield/index/PostingsCollectionFrequencyPinLaw", "pos", "(I)I"⟩ : MethodName)) hown (mvT hZ (hw _ (List.mem_of_getElem? (i := 1) rfl))) (mvT hZ (hw _ (List.mem_of_getElem? (i := 2) rfl))) (mvT hZ (hw _ (List.mem_of_getElem? (i := 3) rfl))) (mvT hZ (hw _ (List.mem_of_getElem? (i := 4) rfl))) (by decide) (backOf (W := 0) (rmP l Z a0 hw [] p3 h0 n0 Z0 ) hZ (hw _ (List.mem_of_getElem? (i := 4) rfl)) (hw _ (List.mem_of_getElem? (i := 3) rfl)) (by decide) (by decide)) (g := (mkF m 15 #[.val (.int p1), .val (.int p2), .val (.int p3), .val (.int p4), .val (.int p5), .val (.int n), .val (.int u), .unset, .unset, .unset, .unset, .unset, .unset, .unset, .unset, .unset, .unset, .unset, .unset] [(.int p3)])) rfl (by rw [hml]; rfl) (argsL := [(.int p3)]) (rest := []) (lenOf pd_0 rfl) rfl (by show 2 * 0 + _ ≤ _; exact Nat.le_of_eq rfl) (hb hby at_15) (fun _ _ => ⟨rfl, e102, (by decide : 0 + 0 ≤ _), (by decide : 0 + 0 ≤ _)⟩)
  dsimp only [Pt.U, Pt.locs, Pt.cells, Pt.slots] at X104 l104 y104 z104 st104 hQ104
  subst l104 y104 z104
  obtain ⟨rfl, N104q, e104⟩ := hQ104
  have N104 := Fr.app N102 N104q
  obtain ⟨v, hv_v, pre105⟩ : ∃ z_ : Int32, z_ = (own_pos p3) ∧ ∀ t_, Steps p.tables e below (T104.setTop (mkF m 18 #[.val (.int p1), .val (.int p2), .val (.int p3), .val (.int p4), .val (.int p5), .val (.int n), .val (.int u), .unset, .unset, .unset, .unset, .unset, .unset, .unset, .unset, .unset, .unset, .unset, .unset] [(.int z_)])) t_ → Steps p.tables e below (s₁.setTop (entryFrame m #[(.int p1), (.int p2), (.int p3), (.int p4), (.int p5)] maxLocals)) t_ := ⟨_, rfl, fun t_ k_ => pre103 _ (by
    show Steps p.tables e below (T102.setTop (mkF m 12 #[.val (.int p1), .val (.int p2), .val (.int p3), .val (.int p4), .val (.int p5), .val (.int n), .unset, .unset, .unset, .unset, .unset, .unset, .unset, .unset, .unset, .unset, .unset, .unset, .unset] [(.int u)])) _
    refine XS.istore X102.here hx rfl (hb hby at_12) rfl (l' := #[.val (.int p1), .val (.int p2), .val (.int p3), .val (.int p4), .val (.int p5), .val (.int n), .val (.int u), .unset, .unset, .unset, .unset, .unset, .unset, .unset, .unset, .unset, .unset, .unset, .unset]) rfl ?_
    show Steps p.tables e below (T102.setTop (mkF m 14 #[.val (.int p1), .val (.int p2), .val (.int p3), .val (.int p4), .val (.int p5), .val (.int n), .val (.int u), .unset, .unset, .unset, .unset, .unset, .unset, .unset, .unset, .unset, .unset, .unset, .unset] [])) _
    refine XS.iloadN X102.here hx rfl (hb hby at_14) rfl ?_
    show Steps p.tables e below (T102.setTop (mkF m 15 #[.val (.int p1), .val (.int p2), .val (.int p3), .val (.int p4), .val (.int p5), .val (.int n), .val (.int u), .unset, .unset, .unset, .unset, .unset, .unset, .unset, .unset, .unset, .unset, .unset, .unset] [(.int p3)])) _
    refine st104 _ ?_
    exact k_)⟩
  obtain ⟨_, _, ⟨T106, L106, k106, n106⟩, -, X106, ⟨Lc106, hQ106, l106, y106, z106⟩, st106⟩ := Jvm.LawKit.callS X104 hx (y := (⟨"com/example/cranfield/cranfield/index/PostingsCollectionFrequencyPinLaw", "pos", "(I)I"⟩ : MethodName)) hown (mvT hZ (hw _ (List.mem_of_getElem? (i := 1) rfl))) (mvT hZ (hw _ (List.mem_of_getElem? (i := 2) rfl))) (mvT hZ (hw _ (List.mem_of_getElem? (i := 3) rfl))) (mvT hZ (hw _ (List.mem_of_getElem? (i := 4) rfl))) (by decide) (backOf (W := 0) (rmP l Z a0 hw [] p4 h0 n0 Z0 ) hZ (hw _ (List.mem_of_getElem? (i := 4) rfl)) (hw _ (List.mem_of_getElem? (i := 3) rfl)) (by decide) (by decide)) (g := (mkF m 21 #[.val (.int p1), .val (.int p2), .val (.int p3), .val (.int p4), .val (.int p5), .val (.int n), .val (.int u), .val (.int v), .unset, .unset, .unset, .unset, .unset, .unset, .unset, .unset, .unset, .unset, .unset] [(.int p4)])) rfl (by rw [hml]; rfl) (argsL := [(.int p4)]) (rest := []) (lenOf pd_0 rfl) rfl (by show 2 * 0 + _ ≤ _; exact Nat.le_of_eq rfl) (hb hby at_21) (fun _ _ => ⟨rfl, e104, (by decide : 0 + 0 ≤ _), (by decide : 0 + 0 ≤ _)⟩)
  dsimp only [Pt.U, Pt.locs, Pt.cells, Pt.slots] at X106 l106 y106 z106 st106 hQ106
  subst l106 y106 z106
  obtain ⟨rfl, N106q, e106⟩ := hQ106
  have N106 := Fr.app N104 N106q
  obtain ⟨w, hv_w, pre107⟩ : ∃ z_ : Int32, z_ = (own_pos p4) ∧ ∀ t_, Steps p.tables e below (T106.setTop (mkF m 24 #[.val (.int p1), .val (.int p2), .val (.int p3), .val (.int p4), .val (.int p5), .val (.int n), .val (.int u), .val (.int v), .unset, .unset, .unset, .unset, .unset, .unset, .unset, .unset, .unset, .unset, .unset] [(.int z_)])) t_ → Steps p.tables e below (s₁.setTop (entryFrame m #[(.int p1), (.int p2), (.int p3), (.int p4), (.int p5)] maxLocals)) t_ := ⟨_, rfl, fun t_ k_ => pre105 _ (by
    show Steps p.tables e below (T104.setTop (mkF m 18 #[.val (.int p1), .val (.int p2), .val (.int p3), .val (.int p4), .val (.int p5), .val (.int n), .val (.int u), .unset, .unset, .unset, .unset, .unset, .unset, .unset, .unset, .unset, .unset, .unset, .unset] [(.int v)])) _
    refine XS.istore X104.here hx rfl (hb hby at_18) rfl (l' := #[.val (.int p1), .val (.int p2), .val (.int p3), .val (.int p4), .val (.int p5), .val (.int n), .val (.int u), .val (.int v), .unset, .unset, .unset, .unset, .unset, .unset, .unset, .unset, .unset, .unset, .unset]) rfl ?_
    show Steps p.tables e below (T104.setTop (mkF m 20 #[.val (.int p1), .val (.int p2), .val (.int p3), .val (.int p4), .val (.int p5), .val (.int n), .val (.int u), .val (.int v), .unset, .unset, .unset, .unset, .unset, .unset, .unset, .unset, .unset, .unset, .unset] [])) _
    refine XS.iloadN X104.here hx rfl (hb hby at_20) rfl ?_
    show Steps p.tables e below (T104.setTop (mkF m 21 #[.val (.int p1), .val (.int p2), .val (.int p3), .val (.int p4), .val (.int p5), .val (.int n), .val (.int u), .val (.int v), .unset, .unset, .unset, .unset, .unset, .unset, .unset, .unset, .unset, .unset, .unset] [(.int p4)])) _
    refine st106 _ ?_
    exact k_)⟩
  obtain ⟨_, _, ⟨T108, L108, k108, n108⟩, -, X108, ⟨Lc108, hQ108, l108, y108, z108⟩, st108⟩ := Jvm.LawKit.callS X106 hx (y := (⟨"com/example/cranfield/cranfield/index/PostingsCollectionFrequencyPinLaw", "pos", "(I)I"⟩ : MethodName)) hown (mvT hZ (hw _ (List.mem_of_getElem? (i := 1) rfl))) (mvT hZ (hw _ (List.mem_of_getElem? (i := 2) rfl))) (mvT hZ (hw _ (List.mem_of_getElem? (i := 3) rfl))) (mvT hZ (hw _ (List.mem_of_getElem? (i := 4) rfl))) (by decide) (backOf (W := 0) (rmP l Z a0 hw [] p5 h0 n0 Z0 ) hZ (hw _ (List.mem_of_getElem? (i := 4) rfl)) (hw _ (List.mem_of_getElem? (i := 3) rfl)) (by decide) (by decide)) (g := (mkF m 28 #[.val (.int p1), .val (.int p2), .val (.int p3), .val (.int p4), .val (.int p5), .val (.int n), .val (.int u), .val (.int v), .val (.int w), .unset, .unset, .unset, .unset, .unset, .unset, .unset, .unset, .unset, .unset] [(.int p5)])) rfl (by rw [hml]; rfl) (argsL := [(.int p5)]) (rest := []) (lenOf pd_0 rfl) rfl (by show 2 * 0 + _ ≤ _; exact Nat.le_of_eq rfl) (hb hby at_28) (fun _ _ => ⟨rfl, e106, (by decide : 0 + 0 ≤ _), (by decide : 0 + 0 ≤ _)⟩)
  dsimp only [Pt.U, Pt.locs, Pt.cells, Pt.slots] at X108 l108 y108 z108 st108 hQ108
  subst l108 y108 z108
  obtain ⟨rfl, N108q, e108⟩ := hQ108
  have N108 := Fr.app N106 N108q
  obtain ⟨z, hv_z, pre109⟩ : ∃ z_ : Int32, z_ = (own_pos p5) ∧ ∀ t_, Steps p.tables e below (T108.setTop (mkF m 31 #[.val (.int p1), .val (.int p2), .val (.int p3), .val (.int p4), .val (.int p5), .val (.int n), .val (.int u), .val (.int v), .val (.int w), .unset, .unset, .unset, .unset, .unset, .unset, .unset, .unset, .unset, .unset] [(.int z_)])) t_ → Steps p.tables e below (s₁.setTop (entryFrame m #[(.int p1), (.int p2), (.int p3), (.int p4), (.int p5)] maxLocals)) t_ := ⟨_, rfl, fun t_ k_ => pre107 _ (by
    show Steps p.tables e below (T106.setTop (mkF m 24 #[.val (.int p1), .val (.int p2), .val (.int p3), .val (.int p4), .val (.int p5), .val (.int n), .val (.int u), .val (.int v), .unset, .unset, .unset, .unset, .unset, .unset, .unset, .unset, .unset, .unset, .unset] [(.int w)])) _
    refine XS.istore X106.here hx rfl (hb hby at_24) rfl (l' := #[.val (.int p1), .val (.int p2), .val (.int p3), .val (.int p4), .val (.int p5), .val (.int n), .val (.int u), .val (.int v), .val (.int w), .unset, .unset, .unset, .unset, .unset, .unset, .unset, .unset, .unset, .unset]) rfl ?_
    show Steps p.tables e below (T106.setTop (mkF m 26 #[.val (.int p1), .val (.int p2), .val (.int p3), .val (.int p4), .val (.int p5), .val (.int n), .val (.int u), .val (.int v), .val (.int w), .unset, .unset, .unset, .unset, .unset, .unset, .unset, .unset, .unset, .unset] [])) _
    refine XS.iload X106.here hx rfl (hb hby at_26) rfl ?_
    show Steps p.tables e below (T106.setTop (mkF m 28 #[.val (.int p1), .val (.int p2), .val (.int p3), .val (.int p4), .val (.int p5), .val (.int n), .val (.int u), .val (.int v), .val (.int w), .unset, .unset, .unset, .unset, .unset, .unset, .unset, .unset, .unset, .unset] [(.int p5)])) _
    refine st108 _ ?_
    exact k_)⟩
  have pre110 : ∀ t_, Steps p.tables e below (T108.setTop (mkF m 35 #[.val (.int p1), .val (.int p2), .val (.int p3), .val (.int p4), .val (.int p5), .val (.int n), .val (.int u), .val (.int v), .val (.int w), .val (.int z), .unset, .unset, .unset, .unset, .unset, .unset, .unset, .unset, .unset] [(.int n)])) t_ → Steps p.tables e below (s₁.setTop (entryFrame m #[(.int p1), (.int p2), (.int p3), (.int p4), (.int p5)] maxLocals)) t_ := fun t_ k_ => pre109 _ (by
    show Steps p.tables e below (T108.setTop (mkF m 31 #[.val (.int p1), .val (.int p2), .val (.int p3), .val (.int p4), .val (.int p5), .val (.int n), .val (.int u), .val (.int v), .val (.int w), .unset, .unset, .unset, .unset, .unset, .unset, .unset, .unset, .unset, .unset] [(.int z)])) _
    refine XS.istore X108.here hx rfl (hb hby at_31) rfl (l' := #[.val (.int p1), .val (.int p2), .val (.int p3), .val (.int p4), .val (.int p5), .val (.int n), .val (.int u), .val (.int v), .val (.int w), .val (.int z), .unset, .unset, .unset, .unset, .unset, .unset, .unset, .unset, .unset]) rfl ?_
    show Steps p.tables e below (T108.setTop (mkF m 33 #[.val (.int p1), .val (.int p2), .val (.int p3), .val (.int p4), .val (.int p5), .val (.int n), .val (.int u), .val (.int v), .val (.int w), .val (.int z), .unset, .unset, .unset, .unset, .unset, .unset, .unset, .unset, .unset] [])) _
    refine XS.iload X108.here hx rfl (hb hby at_33) rfl ?_
    exact k_)
  rcases hn with q | q | q | q | q
  · skip
    obtain ⟨T111, h111, k_bd, X111, e111, Ext_bd, A_bd, st111⟩ := newP X108 hx hZ (hw _ (List.mem_of_getElem? (i := 5) rfl)) e108 (g := (mkF m 39 #[.val (.int p1), .val (.int p2), .val (.int p3), .val (.int p4), .val (.int p5), .val (.int n), .val (.int u), .val (.int v), .val (.int w), .val (.int z), .unset, .unset, .unset, .unset, .unset, .unset, .unset, .unset, .unset] [(.int (0 : Int32))])) rfl (hb hby at_39) rfl (by decide) (cap := 0) (by decide) (by decide) (by decide) (by decide)
    obtain ⟨bd, eq_bd⟩ : ∃ z, z = h0.size := ⟨_, rfl⟩
    rw [← eq_bd] at A_bd st111
    have g_bd : n0 ≤ bd := Nat.le_trans Z0 (Nat.le_of_eq eq_bd.symm)
    have Z112 : n0 ≤ h111.size := Nat.le_trans Z0 (Ext_bd.1)
    have V_bd : Arv Z h111 bd k_bd .int (0 : Int32) [] (.int (0 : Int32)) := Arv.new A_bd (by decide)
    obtain ⟨T113, h113, k_bc, X113, e113, Ext_bc, A_bc, st113⟩ := newP X111 hx hZ (hw _ (List.mem_of_getElem? (i := 5) rfl)) e111 (g := (mkF m 44 #[.val (.int p1), .val (.int p2), .val (.int p3), .val (.int p4), .val (.int p5), .val (.int n), .val (.int u), .val (.int v), .val (.int w), .val (.int z), .val (.ref bd), .unset, .unset, .unset, .unset, .unset, .unset, .unset, .unset] [(.int (0 : Int32))])) rfl (hb hby at_44) rfl (by decide) (cap := 0) (by decide) (by decide) (by decide) (by decide)
    obtain ⟨bc, eq_bc⟩ : ∃ z, z = h111.size := ⟨_, rfl⟩
    rw [← eq_bc] at A_bc st113
    have g_bc : n0 ≤ bc := Nat.le_trans Z112 (Nat.le_of_eq eq_bc.symm)
    have ne_bd_bc : bd ≠ bc := Nat.ne_of_lt (Nat.lt_of_lt_of_le V_bd.lt (Nat.le_of_eq eq_bc.symm))
    have V_bd_114 := V_bd.ext Ext_bc
    have Z115 : n0 ≤ h113.size := Nat.le_trans Z112 (Ext_bc.1)
    have V_bc : Arv Z h113 bc k_bc .int (0 : Int32) [] (.int (0 : Int32)) := Arv.new A_bc (by decide)
    obtain ⟨T116, h116, X116, e116, Ext_bp, E_bp, D_bp, -, st116⟩ := newO X113 hx hZ hown (hw _ (List.mem_of_getElem? (i := 6) rfl)) (hw _ (List.mem_of_getElem? (i := 7) rfl)) (hw _ (List.mem_of_getElem? (i := 8) rfl)) e113 (g := (mkF m 208 #[.val (.int p1), .val (.int p2), .val (.int p3), .val (.int p4), .val (.int p5), .val (.int n), .val (.int u), .val (.int v), .val (.int w), .val (.int z), .val (.ref bd), .val (.ref bc), .unset, .unset, .unset, .unset, .unset, .unset, .unset] [])) rfl (hb hby at_208) (by decide) (by decide)
    obtain ⟨bp, eq_bp⟩ : ∃ z, z = h113.size := ⟨_, rfl⟩
    rw [← eq_bp] at E_bp D_bp st116
    have g_bp : n0 ≤ bp := Nat.le_trans Z115 (Nat.le_of_eq eq_bp.symm)
    have ne_bd_bp : bd ≠ bp := Nat.ne_of_lt (Nat.lt_of_lt_of_le V_bd_114.lt (Nat.le_of_eq eq_bp.symm))
    have V_bd_117 := V_bd_114.ext Ext_bp
    have ne_bc_bp : bc ≠ bp := Nat.ne_of_lt (Nat.lt_of_lt_of_le V_bc.lt (Nat.le_of_eq eq_bp.symm))
    have V_bc_119 := V_bc.ext Ext_bp
    have Z120 : n0 ≤ h116.size := Nat.le_trans Z115 (Ext_bp.1)
    have F0_bp : Fld Z h116 bp "com/example/cranfield/cranfield/index/Postings" "documents" "[I" .null := D_bp (Or.inr (hw _ (List.mem_of_getElem? (i := 16) rfl))) (ty := (.array .int)) (by decide)
    have F1_bp : Fld Z h116 bp "com/example/cranfield/cranfield/index/Postings" "counts" "[I" .null := D_bp (Or.inr (hw _ (List.mem_of_getElem? (i := 18) rfl))) (ty := (.array .int)) (by decide)
    obtain ⟨_, _, ⟨T121, L121, k121, n121⟩, -, X121, ⟨Lc121, hQ121, l121, y121, z121⟩, st121⟩ := X116.specialBack hx (y := (⟨"com/example/cranfield/cranfield/index/Postings", "<init>", "([I[I)V"⟩ : MethodName)) rfl hown (mvT hZ (hw _ (List.mem_of_getElem? (i := 9) rfl))) (mvT hZ (hw _ (List.mem_of_getElem? (i := 10) rfl))) (mvT hZ (hw _ (List.mem_of_getElem? (i := 11) rfl))) (by decide) (backOf (W := 1) (rmC l Z a0 hw [] bp bd bc k_bd k_bc (0 : Int32) [] [] h116 n0 Z120 E_bp F0_bp F1_bp g_bp V_bd_117 V_bc_119) hZ (hw _ (List.mem_of_getElem? (i := 11) rfl)) (hw _ (List.mem_of_getElem? (i := 8) rfl)) (by decide) (by decide)) (g := (mkF m 216 #[.val (.int p1), .val (.int p2), .val (.int p3), .val (.int p4), .val (.int p5), .val (.int n), .val (.int u), .val (.int v), .val (.int w), .val (.int z), .val (.ref bd), .val (.ref bc), .unset, .unset, .unset, .unset, .unset, .unset, .unset] [(.ref bc), (.ref bd), (.ref bp), (.ref bp)])) rfl (by rw [hml]; rfl) (Steps.refl _) (a := bp) (argsL := [(.ref bd), (.ref bc)]) (rest := [(.ref bp)]) (lenOf pd_1 rfl) rfl (by show 2 * 0 + _ ≤ _; exact Nat.le_of_eq rfl) (hb hby at_216) (fun _ _ => ⟨rfl, e116, (by decide : 3 + 0 ≤ _), (by decide : 2 + 0 ≤ _)⟩)
    dsimp only [Pt.U, Pt.locs, Pt.cells, Pt.slots] at X121 l121 y121 z121 st121 hQ121
    subst l121 y121 z121
    obtain ⟨rfl, N121q, K121, E121, F121⟩ := hQ121
    have N121 := Fr.app N108 N121q
    have V_bd_122 := V_bd_117.keep K121 (ninS ne_bd_bp nin0)
    have V_bc_124 := V_bc_119.keep K121 (ninS ne_bc_bp nin0)
    have Z127 : n0 ≤ T121.heap.size := Nat.le_trans Z120 (K121.1)
    obtain ⟨cq128, kq128, q128a, q128b, q128c⟩ := isOf hZ rfl E121
    obtain ⟨_, _, ⟨T128, L128, k128, n128⟩, -, X128, ⟨Lc128, hQ128, l128, y128, z128⟩, st128⟩ := X121.virtualBack hx (y := (⟨"com/example/cranfield/cranfield/index/Postings", "collectionFrequency", "()J"⟩ : MethodName)) (z := (⟨"com/example/cranfield/cranfield/index/Postings", "collectionFrequency", "()J"⟩ : MethodName)) hown (mvT hZ (hw _ (List.mem_of_getElem? (i := 19) rfl))) (mvT hZ (hw _ (List.mem_of_getElem? (i := 20) rfl))) (notFace_of_selects (args := #[]) (mvT hZ (hw _ (List.mem_of_getElem? (i := 22) rfl)))) (mvT hZ (hw _ (List.mem_of_getElem? (i := 22) rfl))) (mvT hZ (hw _ (List.mem_of_getElem? (i := 21) rfl))) (by decide) (backOf (W := 0) (rmF0 l Z a0 hw [] bp bc k_bc  T121.heap n0 Z127 F121 V_bc_124) hZ (hw _ (List.mem_of_getElem? (i := 23) rfl)) (hw _ (List.mem_of_getElem? (i := 8) rfl)) (by decide) (by decide)) q128a q128c (g := (mkF m 282 #[.val (.int p1), .val (.int p2), .val (.int p3), .val (.int p4), .val (.int p5), .val (.int n), .val (.int u), .val (.int v), .val (.int w), .val (.int z), .val (.ref bd), .val (.ref bc), .val (.ref bp), .val (.long (0 : Int64)), .second, .unset, .unset, .unset, .unset] [(.ref bp)])) rfl (by rw [hml]; rfl) (Steps.refl _) (argsL := []) (rest := []) (lenOf pd_2 rfl) rfl (by show 2 * 0 + _ ≤ _; exact Nat.le_of_eq rfl) (hb hby at_282) (fun _ _ => ⟨rfl, rfl, (by decide : 3 + 0 ≤ _), (by decide : 2 + 0 ≤ _)⟩)
    dsimp only [Pt.U, Pt.locs, Pt.cells, Pt.slots] at X128 l128 y128 z128 st128 hQ128
    subst l128 y128 z128
    obtain ⟨rfl, N128q, e128⟩ := hQ128
    have N128 := Fr.app N121 N128q
    obtain ⟨cq129, kq129, q129a, q129b, q129c⟩ := isOf hZ e128 E121
    obtain ⟨_, _, ⟨T129, L129, k129, n129⟩, -, X129, ⟨Lc129, hQ129, l129, y129, z129⟩, st129⟩ := X128.virtualBack hx (y := (⟨"com/example/cranfield/cranfield/index/Postings", "collectionFrequency", "()J"⟩ : MethodName)) (z := (⟨"com/example/cranfield/cranfield/index/Postings", "collectionFrequency", "()J"⟩ : MethodName)) hown (mvT hZ (hw _ (List.mem_of_getElem? (i := 19) rfl))) (mvT hZ (hw _ (List.mem_of_getElem? (i := 20) rfl))) (notFace_of_selects (args := #[]) (mvT hZ (hw _ (List.mem_of_getElem? (i := 22) rfl)))) (mvT hZ (hw _ (List.mem_of_getElem? (i := 22) rfl))) (mvT hZ (hw _ (List.mem_of_getElem? (i := 21) rfl))) (by decide) (backOf (W := 0) (rmF0 l Z a0 hw [] bp bc k_bc  T121.heap n0 Z127 F121 V_bc_124) hZ (hw _ (List.mem_of_getElem? (i := 23) rfl)) (hw _ (List.mem_of_getElem? (i := 8) rfl)) (by decide) (by decide)) q129a q129c (g := (mkF m 289 #[.val (.int p1), .val (.int p2), .val (.int p3), .val (.int p4), .val (.int p5), .val (.int n), .val (.int u), .val (.int v), .val (.int w), .val (.int z), .val (.ref bd), .val (.ref bc), .val (.ref bp), .val (.long (0 : Int64)), .second, .val (.long (0 : Int64)), .second, .unset, .unset] [(.ref bp)])) rfl (by rw [hml]; rfl) (Steps.refl _) (argsL := []) (rest := []) (lenOf pd_2 rfl) rfl (by show 2 * 0 + _ ≤ _; exact Nat.le_of_eq rfl) (hb hby at_289) (fun _ _ => ⟨rfl, e128, (by decide : 3 + 0 ≤ _), (by decide : 2 + 0 ≤ _)⟩)
    dsimp only [Pt.U, Pt.locs, Pt.cells, Pt.slots] at X129 l129 y129 z129 st129 hQ129
    subst l129 y129 z129
    obtain ⟨rfl, N129q, e129⟩ := hQ129
    have N129 := Fr.app N128 N129q
    have pre130 : ∀ t_, Steps p.tables e below (T129.setTop (mkF m 315 #[.val (.int p1), .val (.int p2), .val (.int p3), .val (.int p4), .val (.int p5), .val (.int n), .val (.int u), .val (.int v), .val (.int w), .val (.int z), .val (.ref bd), .val (.ref bc), .val (.ref bp), .val (.long (0 : Int64)), .second, .val (.long (0 : Int64)), .second, .val (.long (0 : Int64)), .second] [(.int (1 : Int32))])) t_ → Steps p.tables e below (s₁.setTop (entryFrame m #[(.int p1), (.int p2), (.int p3), (.int p4), (.int p5)] maxLocals)) t_ := fun t_ k_ => pre110 _ (by
      show Steps p.tables e below (T108.setTop (mkF m 35 #[.val (.int p1), .val (.int p2), .val (.int p3), .val (.int p4), .val (.int p5), .val (.int n), .val (.int u), .val (.int v), .val (.int w), .val (.int z), .unset, .unset, .unset, .unset, .unset, .unset, .unset, .unset, .unset] [(.int n)])) _
      refine XS.ifNo X108.here hx rfl (hb hby at_35) rfl ((if0 _ _).trans (teq (by rw [q])).2) ?_
      show Steps p.tables e below (T108.setTop (mkF m 38 #[.val (.int p1), .val (.int p2), .val (.int p3), .val (.int p4), .val (.int p5), .val (.int n), .val (.int u), .val (.int v), .val (.int w), .val (.int z), .unset, .unset, .unset, .unset, .unset, .unset, .unset, .unset, .unset] [])) _
      refine XS.iconst X108.here hx rfl (hb hby at_38) ?_
      show Steps p.tables e below (T108.setTop (mkF m 39 #[.val (.int p1), .val (.int p2), .val (.int p3), .val (.int p4), .val (.int p5), .val (.int n), .val (.int u), .val (.int v), .val (.int w), .val (.int z), .unset, .unset, .unset, .unset, .unset, .unset, .unset, .unset, .unset] [(.int (0 : Int32))])) _
      refine st111 _ ?_
      show Steps p.tables e below (T111.setTop (mkF m 41 #[.val (.int p1), .val (.int p2), .val (.int p3), .val (.int p4), .val (.int p5), .val (.int n), .val (.int u), .val (.int v), .val (.int w), .val (.int z), .unset, .unset, .unset, .unset, .unset, .unset, .unset, .unset, .unset] [(.ref bd)])) _
      refine XS.astore X111.here hx rfl (hb hby at_41) rfl rfl (l' := #[.val (.int p1), .val (.int p2), .val (.int p3), .val (.int p4), .val (.int p5), .val (.int n), .val (.int u), .val (.int v), .val (.int w), .val (.int z), .val (.ref bd), .unset, .unset, .unset, .unset, .unset, .unset, .unset, .unset]) rfl ?_
      show Steps p.tables e below (T111.setTop (mkF m 43 #[.val (.int p1), .val (.int p2), .val (.int p3), .val (.int p4), .val (.int p5), .val (.int n), .val (.int u), .val (.int v), .val (.int w), .val (.int z), .val (.ref bd), .unset, .unset, .unset, .unset, .unset, .unset, .unset, .unset] [])) _
      refine XS.iconst X111.here hx rfl (hb hby at_43) ?_
      show Steps p.tables e below (T111.setTop (mkF m 44 #[.val (.int p1), .val (.int p2), .val (.int p3), .val (.int p4), .val (.int p5), .val (.int n), .val (.int u), .val (.int v), .val (.int w), .val (.int z), .val (.ref bd), .unset, .unset, .unset, .unset, .unset, .unset, .unset, .unset] [(.int (0 : Int32))])) _
      refine st113 _ ?_
      show Steps p.tables e below (T113.setTop (mkF m 46 #[.val (.int p1), .val (.int p2), .val (.int p3), .val (.int p4), .val (.int p5), .val (.int n), .val (.int u), .val (.int v), .val (.int w), .val (.int z), .val (.ref bd), .unset, .unset, .unset, .unset, .unset, .unset, .unset, .unset] [(.ref bc)])) _
      refine XS.astore X113.here hx rfl (hb hby at_46) rfl rfl (l' := #[.val (.int p1), .val (.int p2), .val (.int p3), .val (.int p4), .val (.int p5), .val (.int n), .val (.int u), .val (.int v), .val (.int w), .val (.int z), .val (.ref bd), .val (.ref bc), .unset, .unset, .unset, .unset, .unset, .unset, .unset]) rfl ?_
      show Steps p.tables e below (T113.setTop (mkF m 48 #[.val (.int p1), .val (.int p2), .val (.int p3), .val (.int p4), .val (.int p5), .val (.int n), .val (.int u), .val (.int v), .val (.int w), .val (.int z), .val (.ref bd), .val (.ref bc), .unset, .unset, .unset, .unset, .unset, .unset, .unset] [])) _
      refine XS.goto X113.here hx rfl (pc0 := 48) (pc' := 208) rfl (hb hby at_48) (by decide) (by decide) ?_
      show Steps p.tables e below (T113.setTop (mkF m 208 #[.val (.int p1), .val (.int p2), .val (.int p3), .val (.int p4), .val (.int p5), .val (.int n), .val (.int u), .val (.int v), .val (.int w), .val (.int z), .val (.ref bd), .val (.ref bc), .unset, .unset, .unset, .unset, .unset, .unset, .unset] [])) _
      refine st116 _ ?_
      show Steps p.tables e below (T116.setTop (mkF m 211 #[.val (.int p1), .val (.int p2), .val (.int p3), .val (.int p4), .val (.int p5), .val (.int n), .val (.int u), .val (.int v), .val (.int w), .val (.int z), .val (.ref bd), .val (.ref bc), .unset, .unset, .unset, .unset, .unset, .unset, .unset] [(.ref bp)])) _
      refine XS.dup X116.here hx rfl (hb hby at_211) rfl rfl ?_
      show Steps p.tables e below (T116.setTop (mkF m 212 #[.val (.int p1), .val (.int p2), .val (.int p3), .val (.int p4), .val (.int p5), .val (.int n), .val (.int u), .val (.int v), .val (.int w), .val (.int z), .val (.ref bd), .val (.ref bc), .unset, .unset, .unset, .unset, .unset, .unset, .unset] [(.ref bp), (.ref bp)])) _
      refine XS.aload X116.here hx rfl (hb hby at_212) rfl rfl ?_
      show Steps p.tables e below (T116.setTop (mkF m 214 #[.val (.int p1), .val (.int p2), .val (.int p3), .val (.int p4), .val (.int p5), .val (.int n), .val (.int u), .val (.int v), .val (.int w), .val (.int z), .val (.ref bd), .val (.ref bc), .unset, .unset, .unset, .unset, .unset, .unset, .unset] [(.ref bd), (.ref bp), (.ref bp)])) _
      refine XS.aload X116.here hx rfl (hb hby at_214) rfl rfl ?_
      show Steps p.tables e below (T116.setTop (mkF m 216 #[.val (.int p1), .val (.int p2), .val (.int p3), .val (.int p4), .val (.int p5), .val (.int n), .val (.int u), .val (.int v), .val (.int w), .val (.int z), .val (.ref bd), .val (.ref bc), .unset, .unset, .unset, .unset, .unset, .unset, .unset] [(.ref bc), (.ref bd), (.ref bp), (.ref bp)])) _
      refine st121.trans ?_
      show Steps p.tables e below (T121.setTop (mkF m 219 #[.val (.int p1), .val (.int p2), .val (.int p3), .val (.int p4), .val (.int p5), .val (.int n), .val (.int u), .val (.int v), .val (.int w), .val (.int z), .val (.ref bd), .val (.ref bc), .unset, .unset, .unset, .unset, .unset, .unset, .unset] [(.ref bp)])) _
      refine XS.astore X121.here hx rfl (hb hby at_219) rfl rfl (l' := #[.val (.int p1), .val (.int p2), .val (.int p3), .val (.int p4), .val (.int p5), .val (.int n), .val (.int u), .val (.int v), .val (.int w), .val (.int z), .val (.ref bd), .val (.ref bc), .val (.ref bp), .unset, .unset, .unset, .unset, .unset, .unset]) rfl ?_
      show Steps p.tables e below (T121.setTop (mkF m 221 #[.val (.int p1), .val (.int p2), .val (.int p3), .val (.int p4), .val (.int p5), .val (.int n), .val (.int u), .val (.int v), .val (.int w), .val (.int z), .val (.ref bd), .val (.ref bc), .val (.ref bp), .unset, .unset, .unset, .unset, .unset, .unset] [])) _
      refine XS.lconst X121.here hx rfl (hb hby at_221) ?_
      show Steps p.tables e below (T121.setTop (mkF m 222 #[.val (.int p1), .val (.int p2), .val (.int p3), .val (.int p4), .val (.int p5), .val (.int n), .val (.int u), .val (.int v), .val (.int w), .val (.int z), .val (.ref bd), .val (.ref bc), .val (.ref bp), .unset, .unset, .unset, .unset, .unset, .unset] [(.long (0 : Int64))])) _
      refine XS.lstore X121.here hx rfl (hb hby at_222) rfl (l' := #[.val (.int p1), .val (.int p2), .val (.int p3), .val (.int p4), .val (.int p5), .val (.int n), .val (.int u), .val (.int v), .val (.int w), .val (.int z), .val (.ref bd), .val (.ref bc), .val (.ref bp), .val (.long (0 : Int64)), .second, .unset, .unset, .unset, .unset]) rfl ?_
      show Steps p.tables e below (T121.setTop (mkF m 224 #[.val (.int p1), .val (.int p2), .val (.int p3), .val (.int p4), .val (.int p5), .val (.int n), .val (.int u), .val (.int v), .val (.int w), .val (.int z), .val (.ref bd), .val (.ref bc), .val (.ref bp), .val (.long (0 : Int64)), .second, .unset, .unset, .unset, .unset] [])) _
      refine XS.iload X121.here hx rfl (hb hby at_224) rfl ?_
      show Steps p.tables e below (T121.setTop (mkF m 226 #[.val (.int p1), .val (.int p2), .val (.int p3), .val (.int p4), .val (.int p5), .val (.int n), .val (.int u), .val (.int v), .val (.int w), .val (.int z), .val (.ref bd), .val (.ref bc), .val (.ref bp), .val (.long (0 : Int64)), .second, .unset, .unset, .unset, .unset] [(.int n)])) _
      refine XS.iconst X121.here hx rfl (hb hby at_226) ?_
      show Steps p.tables e below (T121.setTop (mkF m 227 #[.val (.int p1), .val (.int p2), .val (.int p3), .val (.int p4), .val (.int p5), .val (.int n), .val (.int u), .val (.int v), .val (.int w), .val (.int z), .val (.ref bd), .val (.ref bc), .val (.ref bp), .val (.long (0 : Int64)), .second, .unset, .unset, .unset, .unset] [(.int (1 : Int32)), (.int n)])) _
      refine XS.icmpYes X121.here hx rfl (pc0 := 227) (pc' := 238) rfl (hb hby at_227) rfl (tlt (by rw [q]; decide)).1 (by decide) (by decide) ?_
      show Steps p.tables e below (T121.setTop (mkF m 238 #[.val (.int p1), .val (.int p2), .val (.int p3), .val (.int p4), .val (.int p5), .val (.int n), .val (.int u), .val (.int v), .val (.int w), .val (.int z), .val (.ref bd), .val (.ref bc), .val (.ref bp), .val (.long (0 : Int64)), .second, .unset, .unset, .unset, .unset] [])) _
      refine XS.iload X121.here hx rfl (hb hby at_238) rfl ?_
      show Steps p.tables e below (T121.setTop (mkF m 240 #[.val (.int p1), .val (.int p2), .val (.int p3), .val (.int p4), .val (.int p5), .val (.int n), .val (.int u), .val (.int v), .val (.int w), .val (.int z), .val (.ref bd), .val (.ref bc), .val (.ref bp), .val (.long (0 : Int64)), .second, .unset, .unset, .unset, .unset] [(.int n)])) _
      refine XS.iconst X121.here hx rfl (hb hby at_240) ?_
      show Steps p.tables e below (T121.setTop (mkF m 241 #[.val (.int p1), .val (.int p2), .val (.int p3), .val (.int p4), .val (.int p5), .val (.int n), .val (.int u), .val (.int v), .val (.int w), .val (.int z), .val (.ref bd), .val (.ref bc), .val (.ref bp), .val (.long (0 : Int64)), .second, .unset, .unset, .unset, .unset] [(.int (2 : Int32)), (.int n)])) _
      refine XS.icmpYes X121.here hx rfl (pc0 := 241) (pc' := 252) rfl (hb hby at_241) rfl (tlt (by rw [q]; decide)).1 (by decide) (by decide) ?_
      show Steps p.tables e below (T121.setTop (mkF m 252 #[.val (.int p1), .val (.int p2), .val (.int p3), .val (.int p4), .val (.int p5), .val (.int n), .val (.int u), .val (.int v), .val (.int w), .val (.int z), .val (.ref bd), .val (.ref bc), .val (.ref bp), .val (.long (0 : Int64)), .second, .unset, .unset, .unset, .unset] [])) _
      refine XS.iload X121.here hx rfl (hb hby at_252) rfl ?_
      show Steps p.tables e below (T121.setTop (mkF m 254 #[.val (.int p1), .val (.int p2), .val (.int p3), .val (.int p4), .val (.int p5), .val (.int n), .val (.int u), .val (.int v), .val (.int w), .val (.int z), .val (.ref bd), .val (.ref bc), .val (.ref bp), .val (.long (0 : Int64)), .second, .unset, .unset, .unset, .unset] [(.int n)])) _
      refine XS.iconst X121.here hx rfl (hb hby at_254) ?_
      show Steps p.tables e below (T121.setTop (mkF m 255 #[.val (.int p1), .val (.int p2), .val (.int p3), .val (.int p4), .val (.int p5), .val (.int n), .val (.int u), .val (.int v), .val (.int w), .val (.int z), .val (.ref bd), .val (.ref bc), .val (.ref bp), .val (.long (0 : Int64)), .second, .unset, .unset, .unset, .unset] [(.int (3 : Int32)), (.int n)])) _
      refine XS.icmpYes X121.here hx rfl (pc0 := 255) (pc' := 266) rfl (hb hby at_255) rfl (tlt (by rw [q]; decide)).1 (by decide) (by decide) ?_
      show Steps p.tables e below (T121.setTop (mkF m 266 #[.val (.int p1), .val (.int p2), .val (.int p3), .val (.int p4), .val (.int p5), .val (.int n), .val (.int u), .val (.int v), .val (.int w), .val (.int z), .val (.ref bd), .val (.ref bc), .val (.ref bp), .val (.long (0 : Int64)), .second, .unset, .unset, .unset, .unset] [])) _
      refine XS.iload X121.here hx rfl (hb hby at_266) rfl ?_
      show Steps p.tables e below (T121.setTop (mkF m 268 #[.val (.int p1), .val (.int p2), .val (.int p3), .val (.int p4), .val (.int p5), .val (.int n), .val (.int u), .val (.int v), .val (.int w), .val (.int z), .val (.ref bd), .val (.ref bc), .val (.ref bp), .val (.long (0 : Int64)), .second, .unset, .unset, .unset, .unset] [(.int n)])) _
      refine XS.iconst X121.here hx rfl (hb hby at_268) ?_
      show Steps p.tables e below (T121.setTop (mkF m 269 #[.val (.int p1), .val (.int p2), .val (.int p3), .val (.int p4), .val (.int p5), .val (.int n), .val (.int u), .val (.int v), .val (.int w), .val (.int z), .val (.ref bd), .val (.ref bc), .val (.ref bp), .val (.long (0 : Int64)), .second, .unset, .unset, .unset, .unset] [(.int (4 : Int32)), (.int n)])) _
      refine XS.icmpYes X121.here hx rfl (pc0 := 269) (pc' := 280) rfl (hb hby at_269) rfl (tlt (by rw [q]; decide)).1 (by decide) (by decide) ?_
      show Steps p.tables e below (T121.setTop (mkF m 280 #[.val (.int p1), .val (.int p2), .val (.int p3), .val (.int p4), .val (.int p5), .val (.int n), .val (.int u), .val (.int v), .val (.int w), .val (.int z), .val (.ref bd), .val (.ref bc), .val (.ref bp), .val (.long (0 : Int64)), .second, .unset, .unset, .unset, .unset] [])) _
      refine XS.aload X121.here hx rfl (hb hby at_280) rfl rfl ?_
      show Steps p.tables e below (T121.setTop (mkF m 282 #[.val (.int p1), .val (.int p2), .val (.int p3), .val (.int p4), .val (.int p5), .val (.int n), .val (.int u), .val (.int v), .val (.int w), .val (.int z), .val (.ref bd), .val (.ref bc), .val (.ref bp), .val (.long (0 : Int64)), .second, .unset, .unset, .unset, .unset] [(.ref bp)])) _
      refine st128.trans ?_
      show Steps p.tables e below (T128.setTop (mkF m 285 #[.val (.int p1), .val (.int p2), .val (.int p3), .val (.int p4), .val (.int p5), .val (.int n), .val (.int u), .val (.int v), .val (.int w), .val (.int z), .val (.ref bd), .val (.ref bc), .val (.ref bp), .val (.long (0 : Int64)), .second, .unset, .unset, .unset, .unset] [(.long (0 : Int64))])) _
      refine XS.lstore X128.here hx rfl (hb hby at_285) rfl (l' := #[.val (.int p1), .val (.int p2), .val (.int p3), .val (.int p4), .val (.int p5), .val (.int n), .val (.int u), .val (.int v), .val (.int w), .val (.int z), .val (.ref bd), .val (.ref bc), .val (.ref bp), .val (.long (0 : Int64)), .second, .val (.long (0 : Int64)), .second, .unset, .unset]) rfl ?_
      show Steps p.tables e below (T128.setTop (mkF m 287 #[.val (.int p1), .val (.int p2), .val (.int p3), .val (.int p4), .val (.int p5), .val (.int n), .val (.int u), .val (.int v), .val (.int w), .val (.int z), .val (.ref bd), .val (.ref bc), .val (.ref bp), .val (.long (0 : Int64)), .second, .val (.long (0 : Int64)), .second, .unset, .unset] [])) _
      refine XS.aload X128.here hx rfl (hb hby at_287) rfl rfl ?_
      show Steps p.tables e below (T128.setTop (mkF m 289 #[.val (.int p1), .val (.int p2), .val (.int p3), .val (.int p4), .val (.int p5), .val (.int n), .val (.int u), .val (.int v), .val (.int w), .val (.int z), .val (.ref bd), .val (.ref bc), .val (.ref bp), .val (.long (0 : Int64)), .second, .val (.long (0 : Int64)), .second, .unset, .unset] [(.ref bp)])) _
      refine st129.trans ?_
      show Steps p.tables e below (T129.setTop (mkF m 292 #[.val (.int p1), .val (.int p2), .val (.int p3), .val (.int p4), .val (.int p5), .val (.int n), .val (.int u), .val (.int v), .val (.int w), .val (.int z), .val (.ref bd), .val (.ref bc), .val (.ref bp), .val (.long (0 : Int64)), .second, .val (.long (0 : Int64)), .second, .unset, .unset] [(.long (0 : Int64))])) _
      refine XS.lstore X129.here hx rfl (hb hby at_292) rfl (l' := #[.val (.int p1), .val (.int p2), .val (.int p3), .val (.int p4), .val (.int p5), .val (.int n), .val (.int u), .val (.int v), .val (.int w), .val (.int z), .val (.ref bd), .val (.ref bc), .val (.ref bp), .val (.long (0 : Int64)), .second, .val (.long (0 : Int64)), .second, .val (.long (0 : Int64)), .second]) rfl ?_
      show Steps p.tables e below (T129.setTop (mkF m 294 #[.val (.int p1), .val (.int p2), .val (.int p3), .val (.int p4), .val (.int p5), .val (.int n), .val (.int u), .val (.int v), .val (.int w), .val (.int z), .val (.ref bd), .val (.ref bc), .val (.ref bp), .val (.long (0 : Int64)), .second, .val (.long (0 : Int64)), .second, .val (.long (0 : Int64)), .second] [])) _
      refine XS.lload X129.here hx rfl (hb hby at_294) rfl ?_
      show Steps p.tables e below (T129.setTop (mkF m 296 #[.val (.int p1), .val (.int p2), .val (.int p3), .val (.int p4), .val (.int p5), .val (.int n), .val (.int u), .val (.int v), .val (.int w), .val (.int z), .val (.ref bd), .val (.ref bc), .val (.ref bp), .val (.long (0 : Int64)), .second, .val (.long (0 : Int64)), .second, .val (.long (0 : Int64)), .second] [(.long (0 : Int64))])) _
      refine XS.lload X129.here hx rfl (hb hby at_296) rfl ?_
      show Steps p.tables e below (T129.setTop (mkF m 298 #[.val (.int p1), .val (.int p2), .val (.int p3), .val (.int p4), .val (.int p5), .val (.int n), .val (.int u), .val (.int v), .val (.int w), .val (.int z), .val (.ref bd), .val (.ref bc), .val (.ref bp), .val (.long (0 : Int64)), .second, .val (.long (0 : Int64)), .second, .val (.long (0 : Int64)), .second] [(.long (0 : Int64)), (.long (0 : Int64))])) _
      refine XS.lcmp X129.here hx rfl (hb hby at_298) rfl ?_
      show Steps p.tables e below (T129.setTop (mkF m 299 #[.val (.int p1), .val (.int p2), .val (.int p3), .val (.int p4), .val (.int p5), .val (.int n), .val (.int u), .val (.int v), .val (.int w), .val (.int z), .val (.ref bd), .val (.ref bc), .val (.ref bp), .val (.long (0 : Int64)), .second, .val (.long (0 : Int64)), .second, .val (.long (0 : Int64)), .second] [(.int (lcmpW (0 : Int64) (0 : Int64)))])) _
      refine XS.ifNo X129.here hx rfl (hb hby at_299) rfl ((if0 _ _).trans (teq ((lw_eq _ _).mpr rfl)).2) ?_
      show Steps p.tables e below (T129.setTop (mkF m 302 #[.val (.int p1), .val (.int p2), .val (.int p3), .val (.int p4), .val (.int p5), .val (.int n), .val (.int u), .val (.int v), .val (.int w), .val (.int z), .val (.ref bd), .val (.ref bc), .val (.ref bp), .val (.long (0 : Int64)), .second, .val (.long (0 : Int64)), .second, .val (.long (0 : Int64)), .second] [])) _
      refine XS.lload X129.here hx rfl (hb hby at_302) rfl ?_
      show Steps p.tables e below (T129.setTop (mkF m 304 #[.val (.int p1), .val (.int p2), .val (.int p3), .val (.int p4), .val (.int p5), .val (.int n), .val (.int u), .val (.int v), .val (.int w), .val (.int z), .val (.ref bd), .val (.ref bc), .val (.ref bp), .val (.long (0 : Int64)), .second, .val (.long (0 : Int64)), .second, .val (.long (0 : Int64)), .second] [(.long (0 : Int64))])) _
      refine XS.lload X129.here hx rfl (hb hby at_304) rfl ?_
      show Steps p.tables e below (T129.setTop (mkF m 306 #[.val (.int p1), .val (.int p2), .val (.int p3), .val (.int p4), .val (.int p5), .val (.int n), .val (.int u), .val (.int v), .val (.int w), .val (.int z), .val (.ref bd), .val (.ref bc), .val (.ref bp), .val (.long (0 : Int64)), .second, .val (.long (0 : Int64)), .second, .val (.long (0 : Int64)), .second] [(.long (0 : Int64)), (.long (0 : Int64))])) _
      refine XS.lcmp X129.here hx rfl (hb hby at_306) rfl ?_
      show Steps p.tables e below (T129.setTop (mkF m 307 #[.val (.int p1), .val (.int p2), .val (.int p3), .val (.int p4), .val (.int p5), .val (.int n), .val (.int u), .val (.int v), .val (.int w), .val (.int z), .val (.ref bd), .val (.ref bc), .val (.ref bp), .val (.long (0 : Int64)), .second, .val (.long (0 : Int64)), .second, .val (.long (0 : Int64)), .second] [(.int (lcmpW (0 : Int64) (0 : Int64)))])) _
      refine XS.ifNo X129.here hx rfl (hb hby at_307) rfl ((if0 _ _).trans (teq ((lw_eq _ _).mpr rfl)).2) ?_
      show Steps p.tables e below (T129.setTop (mkF m 310 #[.val (.int p1), .val (.int p2), .val (.int p3), .val (.int p4), .val (.int p5), .val (.int n), .val (.int u), .val (.int v), .val (.int w), .val (.int z), .val (.ref bd), .val (.ref bc), .val (.ref bp), .val (.long (0 : Int64)), .second, .val (.long (0 : Int64)), .second, .val (.long (0 : Int64)), .second] [])) _
      refine XS.iconst X129.here hx rfl (hb hby at_310) ?_
      show Steps p.tables e below (T129.setTop (mkF m 311 #[.val (.int p1), .val (.int p2), .val (.int p3), .val (.int p4), .val (.int p5), .val (.int n), .val (.int u), .val (.int v), .val (.int w), .val (.int z), .val (.ref bd), .val (.ref bc), .val (.ref bp), .val (.long (0 : Int64)), .second, .val (.long (0 : Int64)), .second, .val (.long (0 : Int64)), .second] [(.int (1 : Int32))])) _
      refine XS.goto X129.here hx rfl (pc0 := 311) (pc' := 315) rfl (hb hby at_311) (by decide) (by decide) ?_
      exact k_)
    obtain ⟨fs, hr, hrun, hended, hW, hsame⟩ := X129.leave (v := some (.int (1 : Int32))) (fun h => by rw [Bd.returns] at h; cases h)
    refine ⟨_, _, pre130 _ ?_, hrun, hended, _, _, rfl, ?_, ⟨_, rfl⟩, hW, hsame.mono (by decide) (by decide)⟩
    · show Steps p.tables e below (T129.setTop (mkF m 315 #[.val (.int p1), .val (.int p2), .val (.int p3), .val (.int p4), .val (.int p5), .val (.int n), .val (.int u), .val (.int v), .val (.int w), .val (.int z), .val (.ref bd), .val (.ref bc), .val (.ref bp), .val (.long (0 : Int64)), .second, .val (.long (0 : Int64)), .second, .val (.long (0 : Int64)), .second] [(.int (1 : Int32))])) _
      exact retN X129 hx (t := .boolean) Bd.returns (by simp) (hb hby at_315) hr
    · show Qrm0 Z p1 p2 p3 p4 p5 h0 n0 _ T129.heap _
      rw [e129]
      exact ⟨rfl, N129⟩
  · skip
    obtain ⟨T131, h131, k_bd, X131, e131, Ext_bd, A_bd, st131⟩ := newP X108 hx hZ (hw _ (List.mem_of_getElem? (i := 5) rfl)) e108 (g := (mkF m 58 #[.val (.int p1), .val (.int p2), .val (.int p3), .val (.int p4), .val (.int p5), .val (.int n), .val (.int u), .val (.int v), .val (.int w), .val (.int z), .unset, .unset, .unset, .unset, .unset, .unset, .unset, .unset, .unset] [(.int (1 : Int32))])) rfl (hb hby at_58) rfl (by decide) (cap := 1) (by decide) (by decide) (by decide) (by decide)
    obtain ⟨bd, eq_bd⟩ : ∃ z, z = h0.size := ⟨_, rfl⟩
    rw [← eq_bd] at A_bd st131
    have g_bd : n0 ≤ bd := Nat.le_trans Z0 (Nat.le_of_eq eq_bd.symm)
    have Z132 : n0 ≤ h131.size := Nat.le_trans Z0 (Ext_bd.1)
    have V_bd : Arv Z h131 bd k_bd .int (1 : Int32) [(.int (0 : Int32))] (.int (0 : Int32)) := (Arv.new A_bd (by decide)).pad (pad_rep [] (.int (0 : Int32)) 1)
    obtain ⟨cl133, Ar133, qk133, Sz133, Ng133, Hs133, Gs133⟩ := V_bd
    have hin133 : ¬ ((0 : Int32) < 0 ∨ cl133.slots.size ≤ ((0 : Int32)).toNatClampNeg) := inb_of Sz133 ⟨by decide, by decide⟩
    obtain ⟨T134, h134, X134, e134, W134, st134⟩ := stI X131 hx hZ e131 Ar133 (j := (0 : Int32)) hin133 (g := (mkF m 63 #[.val (.int p1), .val (.int p2), .val (.int p3), .val (.int p4), .val (.int p5), .val (.int n), .val (.int u), .val (.int v), .val (.int w), .val (.int z), .unset, .unset, .unset, .unset, .unset, .unset, .unset, .unset, .unset] [(.int (0 : Int32)), (.int (0 : Int32)), (.ref bd), (.ref bd)])) rfl rfl (hb hby at_63)
    have V_bd_134 : Arv Z h134 bd k_bd .int (1 : Int32) [(.int (0 : Int32))] (.int (0 : Int32)) := Arv.set Ar133 qk133 Sz133 Ng133 Hs133 Gs133 rfl W134 0 rfl (Nat.le_of_ble_eq_true rfl)
    have N134 := Fr.snoc X134 N108 g_bd
    have Z135 : n0 ≤ h134.size := Nat.le_trans Z132 ((Keep.of_wr W134).1)
    obtain ⟨T136, h136, k_bc, X136, e136, Ext_bc, A_bc, st136⟩ := newP X134 hx hZ (hw _ (List.mem_of_getElem? (i := 5) rfl)) e134 (g := (mkF m 67 #[.val (.int p1), .val (.int p2), .val (.int p3), .val (.int p4), .val (.int p5), .val (.int n), .val (.int u), .val (.int v), .val (.int w), .val (.int z), .val (.ref bd), .unset, .unset, .unset, .unset, .unset, .unset, .unset, .unset] [(.int (1 : Int32))])) rfl (hb hby at_67) rfl (by decide) (cap := 1) (by decide) (by decide) (by decide) (by decide)
    obtain ⟨bc, eq_bc⟩ : ∃ z, z = h134.size := ⟨_, rfl⟩
    rw [← eq_bc] at A_bc st136
    have g_bc : n0 ≤ bc := Nat.le_trans Z135 (Nat.le_of_eq eq_bc.symm)
    have ne_bd_bc : bd ≠ bc := Nat.ne_of_lt (Nat.lt_of_lt_of_le V_bd_134.lt (Nat.le_of_eq eq_bc.symm))
    have V_bd_137 := V_bd_134.ext Ext_bc
    have Z138 : n0 ≤ h136.size := Nat.le_trans Z135 (Ext_bc.1)
    have V_bc : Arv Z h136 bc k_bc .int (1 : Int32) [(.int (0 : Int32))] (.int (0 : Int32)) := (Arv.new A_bc (by decide)).pad (pad_rep [] (.int (0 : Int32)) 1)
    obtain ⟨cl139, Ar139, qk139, Sz139, Ng139, Hs139, Gs139⟩ := V_bc
    have hin139 : ¬ ((0 : Int32) < 0 ∨ cl139.slots.size ≤ ((0 : Int32)).toNatClampNeg) := inb_of Sz139 ⟨by decide, by decide⟩
    obtain ⟨T140, h140, X140, e140, W140, st140⟩ := stI X136 hx hZ e136 Ar139 (j := (0 : Int32)) hin139 (g := (mkF m 73 #[.val (.int p1), .val (.int p2), .val (.int p3), .val (.int p4), .val (.int p5), .val (.int n), .val (.int u), .val (.int v), .val (.int w), .val (.int z), .val (.ref bd), .unset, .unset, .unset, .unset, .unset, .unset, .unset, .unset] [(.int u), (.int (0 : Int32)), (.ref bc), (.ref bc)])) rfl rfl (hb hby at_73)
    have V_bd_141 := V_bd_137.other W140 ne_bd_bc
    have V_bc_140 : Arv Z h140 bc k_bc .int (1 : Int32) [(.int u)] (.int (0 : Int32)) := Arv.set Ar139 qk139 Sz139 Ng139 Hs139 Gs139 rfl W140 0 rfl (Nat.le_of_ble_eq_true rfl)
    have N140 := Fr.snoc X140 N134 g_bc
    have Z143 : n0 ≤ h140.size := Nat.le_trans Z138 ((Keep.of_wr W140).1)
    obtain ⟨T144, h144, X144, e144, Ext_bp, E_bp, D_bp, -, st144⟩ := newO X140 hx hZ hown (hw _ (List.mem_of_getElem? (i := 6) rfl)) (hw _ (List.mem_of_getElem? (i := 7) rfl)) (hw _ (List.mem_of_getElem? (i := 8) rfl)) e140 (g := (mkF m 208 #[.val (.int p1), .val (.int p2), .val (.int p3), .val (.int p4), .val (.int p5), .val (.int n), .val (.int u), .val (.int v), .val (.int w), .val (.int z), .val (.ref bd), .val (.ref bc), .unset, .unset, .unset, .unset, .unset, .unset, .unset] [])) rfl (hb hby at_208) (by decide) (by decide)
    obtain ⟨bp, eq_bp⟩ : ∃ z, z = h140.size := ⟨_, rfl⟩
    rw [← eq_bp] at E_bp D_bp st144
    have g_bp : n0 ≤ bp := Nat.le_trans Z143 (Nat.le_of_eq eq_bp.symm)
    have ne_bd_bp : bd ≠ bp := Nat.ne_of_lt (Nat.lt_of_lt_of_le V_bd_141.lt (Nat.le_of_eq eq_bp.symm))
    have V_bd_145 := V_bd_141.ext Ext_bp
    have ne_bc_bp : bc ≠ bp := Nat.ne_of_lt (Nat.lt_of_lt_of_le V_bc_140.lt (Nat.le_of_eq eq_bp.symm))
    have V_bc_147 := V_bc_140.ext Ext_bp
    have Z148 : n0 ≤ h144.size := Nat.le_trans Z143 (Ext_bp.1)
    have F0_bp : Fld Z h144 bp "com/example/cranfield/cranfield/index/Postings" "documents" "[I" .null := D_bp (Or.inr (hw _ (List.mem_of_getElem? (i := 16) rfl))) (ty := (.array .int)) (by decide)
    have F1_bp : Fld Z h144 bp "com/example/cranfield/cranfield/index/Postings" "counts" "[I" .null := D_bp (Or.inr (hw _ (List.mem_of_getElem? (i := 18) rfl))) (ty := (.array .int)) (by decide)
    obtain ⟨_, _, ⟨T149, L149, k149, n149⟩, -, X149, ⟨Lc149, hQ149, l149, y149, z149⟩, st149⟩ := X144.specialBack hx (y := (⟨"com/example/cranfield/cranfield/index/Postings", "<init>", "([I[I)V"⟩ : MethodName)) rfl hown (mvT hZ (hw _ (List.mem_of_getElem? (i := 9) rfl))) (mvT hZ (hw _ (List.mem_of_getElem? (i := 10) rfl))) (mvT hZ (hw _ (List.mem_of_getElem? (i := 11) rfl))) (by decide) (backOf (W := 1) (rmC l Z a0 hw [] bp bd bc k_bd k_bc (1 : Int32) [(.int (0 : Int32))] [(.int u)] h144 n0 Z148 E_bp F0_bp F1_bp g_bp V_bd_145 V_bc_147) hZ (hw _ (List.mem_of_getElem? (i := 11) rfl)) (hw _ (List.mem_of_getElem? (i := 8) rfl)) (by decide) (by decide)) (g := (mkF m 216 #[.val (.int p1), .val (.int p2), .val (.int p3), .val (.int p4), .val (.int p5), .val (.int n), .val (.int u), .val (.int v), .val (.int w), .val (.int z), .val (.ref bd), .val (.ref bc), .unset, .unset, .unset, .unset, .unset, .unset, .unset] [(.ref bc), (.ref bd), (.ref bp), (.ref bp)])) rfl (by rw [hml]; rfl) (Steps.refl _) (a := bp) (argsL := [(.ref bd), (.ref bc)]) (rest := [(.ref bp)]) (lenOf pd_1 rfl) rfl (by show 2 * 0 + _ ≤ _; exact Nat.le_of_eq rfl) (hb hby at_216) (fun _ _ => ⟨rfl, e144, (by decide : 3 + 0 ≤ _), (by decide : 4 + 0 ≤ _)⟩)
    dsimp only [Pt.U, Pt.locs, Pt.cells, Pt.slots] at X149 l149 y149 z149 st149 hQ149
    subst l149 y149 z149
    obtain ⟨rfl, N149q, K149, E149, F149⟩ := hQ149
    have N149 := Fr.app N140 N149q
    have V_bd_150 := V_bd_145.keep K149 (ninS ne_bd_bp nin0)
    have V_bc_152 := V_bc_147.keep K149 (ninS ne_bc_bp nin0)
    have Z155 : n0 ≤ T149.heap.size := Nat.le_trans Z148 (K149.1)
    obtain ⟨cq156, kq156, q156a, q156b, q156c⟩ := isOf hZ rfl E149
    obtain ⟨_, _, ⟨T156, L156, k156, n156⟩, -, X156, ⟨Lc156, hQ156, l156, y156, z156⟩, st156⟩ := X149.virtualBack hx (y := (⟨"com/example/cranfield/cranfield/index/Postings", "collectionFrequency", "()J"⟩ : MethodName)) (z := (⟨"com/example/cranfield/cranfield/index/Postings", "collectionFrequency", "()J"⟩ : MethodName)) hown (mvT hZ (hw _ (List.mem_of_getElem? (i := 19) rfl))) (mvT hZ (hw _ (List.mem_of_getElem? (i := 20) rfl))) (notFace_of_selects (args := #[]) (mvT hZ (hw _ (List.mem_of_getElem? (i := 22) rfl)))) (mvT hZ (hw _ (List.mem_of_getElem? (i := 22) rfl))) (mvT hZ (hw _ (List.mem_of_getElem? (i := 21) rfl))) (by decide) (backOf (W := 0) (rmF1 l Z a0 hw [] bp bc k_bc u T149.heap n0 Z155 F149 V_bc_152) hZ (hw _ (List.mem_of_getElem? (i := 23) rfl)) (hw _ (List.mem_of_getElem? (i := 8) rfl)) (by decide) (by decide)) q156a q156c (g := (mkF m 282 #[.val (.int p1), .val (.int p2), .val (.int p3), .val (.int p4), .val (.int p5), .val (.int n), .val (.int u), .val (.int v), .val (.int w), .val (.int z), .val (.ref bd), .val (.ref bc), .val (.ref bp), .val (.long ((0 : Int64) + (u.toInt64))), .second, .unset, .unset, .unset, .unset] [(.ref bp)])) rfl (by rw [hml]; rfl) (Steps.refl _) (argsL := []) (rest := []) (lenOf pd_2 rfl) rfl (by show 2 * 0 + _ ≤ _; exact Nat.le_of_eq rfl) (hb hby at_282) (fun _ _ => ⟨rfl, rfl, (by decide : 3 + 0 ≤ _), (by decide : 4 + 0 ≤ _)⟩)
    dsimp only [Pt.U, Pt.locs, Pt.cells, Pt.slots] at X156 l156 y156 z156 st156 hQ156
    subst l156 y156 z156
    obtain ⟨rfl, N156q, e156⟩ := hQ156
    have N156 := Fr.app N149 N156q
    obtain ⟨cq157, kq157, q157a, q157b, q157c⟩ := isOf hZ e156 E149
    obtain ⟨_, _, ⟨T157, L157, k157, n157⟩, -, X157, ⟨Lc157, hQ157, l157, y157, z157⟩, st157⟩ := X156.virtualBack hx (y := (⟨"com/example/cranfield/cranfield/index/Postings", "collectionFrequency", "()J"⟩ : MethodName)) (z := (⟨"com/example/cranfield/cranfield/index/Postings", "collectionFrequency", "()J"⟩ : MethodName)) hown (mvT hZ (hw _ (List.mem_of_getElem? (i := 19) rfl))) (mvT hZ (hw _ (List.mem_of_getElem? (i := 20) rfl))) (notFace_of_selects (args := #[]) (mvT hZ (hw _ (List.mem_of_getElem? (i := 22) rfl)))) (mvT hZ (hw _ (List.mem_of_getElem? (i := 22) rfl))) (mvT hZ (hw _ (List.mem_of_getElem? (i := 21) rfl))) (by decide) (backOf (W := 0) (rmF1 l Z a0 hw [] bp bc k_bc u T149.heap n0 Z155 F149 V_bc_152) hZ (hw _ (List.mem_of_getElem? (i := 23) rfl)) (hw _ (List.mem_of_getElem? (i := 8) rfl)) (by decide) (by decide)) q157a q157c (g := (mkF m 289 #[.val (.int p1), .val (.int p2), .val (.int p3), .val (.int p4), .val (.int p5), .val (.int n), .val (.int u), .val (.int v), .val (.int w), .val (.int z), .val (.ref bd), .val (.ref bc), .val (.ref bp), .val (.long ((0 : Int64) + (u.toInt64))), .second, .val (.long ((0 : Int64) + (u.toInt64))), .second, .unset, .unset] [(.ref bp)])) rfl (by rw [hml]; rfl) (Steps.refl _) (argsL := []) (rest := []) (lenOf pd_2 rfl) rfl (by show 2 * 0 + _ ≤ _; exact Nat.le_of_eq rfl) (hb hby at_289) (fun _ _ => ⟨rfl, e156, (by decide : 3 + 0 ≤ _), (by decide : 4 + 0 ≤ _)⟩)
    dsimp only [Pt.U, Pt.locs, Pt.cells, Pt.slots] at X157 l157 y157 z157 st157 hQ157
    subst l157 y157 z157
    obtain ⟨rfl, N157q, e157⟩ := hQ157
    have N157 := Fr.app N156 N157q
    have pre158 : ∀ t_, Steps p.tables e below (T157.setTop (mkF m 315 #[.val (.int p1), .val (.int p2), .val (.int p3), .val (.int p4), .val (.int p5), .val (.int n), .val (.int u), .val (.int v), .val (.int w), .val (.int z), .val (.ref bd), .val (.ref bc), .val (.ref bp), .val (.long ((0 : Int64) + (u.toInt64))), .second, .val (.long ((0 : Int64) + (u.toInt64))), .second, .val (.long ((0 : Int64) + (u.toInt64))), .second] [(.int (1 : Int32))])) t_ → Steps p.tables e below (s₁.setTop (entryFrame m #[(.int p1), (.int p2), (.int p3), (.int p4), (.int p5)] maxLocals)) t_ := fun t_ k_ => pre110 _ (by
      show Steps p.tables e below (T108.setTop (mkF m 35 #[.val (.int p1), .val (.int p2), .val (.int p3), .val (.int p4), .val (.int p5), .val (.int n), .val (.int u), .val (.int v), .val (.int w), .val (.int z), .unset, .unset, .unset, .unset, .unset, .unset, .unset, .unset, .unset] [(.int n)])) _
      refine XS.ifYes X108.here hx rfl (pc0 := 35) (pc' := 51) rfl (hb hby at_35) rfl ((if0 _ _).trans (feq (by rw [q]; decide)).2) (by decide) (by decide) ?_
      show Steps p.tables e below (T108.setTop (mkF m 51 #[.val (.int p1), .val (.int p2), .val (.int p3), .val (.int p4), .val (.int p5), .val (.int n), .val (.int u), .val (.int v), .val (.int w), .val (.int z), .unset, .unset, .unset, .unset, .unset, .unset, .unset, .unset, .unset] [])) _
      refine XS.iload X108.here hx rfl (hb hby at_51) rfl ?_
      show Steps p.tables e below (T108.setTop (mkF m 53 #[.val (.int p1), .val (.int p2), .val (.int p3), .val (.int p4), .val (.int p5), .val (.int n), .val (.int u), .val (.int v), .val (.int w), .val (.int z), .unset, .unset, .unset, .unset, .unset, .unset, .unset, .unset, .unset] [(.int n)])) _
      refine XS.iconst X108.here hx rfl (hb hby at_53) ?_
      show Steps p.tables e below (T108.setTop (mkF m 54 #[.val (.int p1), .val (.int p2), .val (.int p3), .val (.int p4), .val (.int p5), .val (.int n), .val (.int u), .val (.int v), .val (.int w), .val (.int z), .unset, .unset, .unset, .unset, .unset, .unset, .unset, .unset, .unset] [(.int (1 : Int32)), (.int n)])) _
      refine XS.icmpNo X108.here hx rfl (hb hby at_54) rfl (teq (by rw [q])).2 ?_
      show Steps p.tables e below (T108.setTop (mkF m 57 #[.val (.int p1), .val (.int p2), .val (.int p3), .val (.int p4), .val (.int p5), .val (.int n), .val (.int u), .val (.int v), .val (.int w), .val (.int z), .unset, .unset, .unset, .unset, .unset, .unset, .unset, .unset, .unset] [])) _
      refine XS.iconst X108.here hx rfl (hb hby at_57) ?_
      show Steps p.tables e below (T108.setTop (mkF m 58 #[.val (.int p1), .val (.int p2), .val (.int p3), .val (.int p4), .val (.int p5), .val (.int n), .val (.int u), .val (.int v), .val (.int w), .val (.int z), .unset, .unset, .unset, .unset, .unset, .unset, .unset, .unset, .unset] [(.int (1 : Int32))])) _
      refine st131 _ ?_
      show Steps p.tables e below (T131.setTop (mkF m 60 #[.val (.int p1), .val (.int p2), .val (.int p3), .val (.int p4), .val (.int p5), .val (.int n), .val (.int u), .val (.int v), .val (.int w), .val (.int z), .unset, .unset, .unset, .unset, .unset, .unset, .unset, .unset, .unset] [(.ref bd)])) _
      refine XS.dup X131.here hx rfl (hb hby at_60) rfl rfl ?_
      show Steps p.tables e below (T131.setTop (mkF m 61 #[.val (.int p1), .val (.int p2), .val (.int p3), .val (.int p4), .val (.int p5), .val (.int n), .val (.int u), .val (.int v), .val (.int w), .val (.int z), .unset, .unset, .unset, .unset, .unset, .unset, .unset, .unset, .unset] [(.ref bd), (.ref bd)])) _
      refine XS.iconst X131.here hx rfl (hb hby at_61) ?_
      show Steps p.tables e below (T131.setTop (mkF m 62 #[.val (.int p1), .val (.int p2), .val (.int p3), .val (.int p4), .val (.int p5), .val (.int n), .val (.int u), .val (.int v), .val (.int w), .val (.int z), .unset, .unset, .unset, .unset, .unset, .unset, .unset, .unset, .unset] [(.int (0 : Int32)), (.ref bd), (.ref bd)])) _
      refine XS.iconst X131.here hx rfl (hb hby at_62) ?_
      show Steps p.tables e below (T131.setTop (mkF m 63 #[.val (.int p1), .val (.int p2), .val (.int p3), .val (.int p4), .val (.int p5), .val (.int n), .val (.int u), .val (.int v), .val (.int w), .val (.int z), .unset, .unset, .unset, .unset, .unset, .unset, .unset, .unset, .unset] [(.int (0 : Int32)), (.int (0 : Int32)), (.ref bd), (.ref bd)])) _
      refine st134 _ ?_
      show Steps p.tables e below (T134.setTop (mkF m 64 #[.val (.int p1), .val (.int p2), .val (.int p3), .val (.int p4), .val (.int p5), .val (.int n), .val (.int u), .val (.int v), .val (.int w), .val (.int z), .unset, .unset, .unset, .unset, .unset, .unset, .unset, .unset, .unset] [(.ref bd)])) _
      refine XS.astore X134.here hx rfl (hb hby at_64) rfl rfl (l' := #[.val (.int p1), .val (.int p2), .val (.int p3), .val (.int p4), .val (.int p5), .val (.int n), .val (.int u), .val (.int v), .val (.int w), .val (.int z), .val (.ref bd), .unset, .unset, .unset, .unset, .unset, .unset, .unset, .unset]) rfl ?_
      show Steps p.tables e below (T134.setTop (mkF m 66 #[.val (.int p1), .val (.int p2), .val (.int p3), .val (.int p4), .val (.int p5), .val (.int n), .val (.int u), .val (.int v), .val (.int w), .val (.int z), .val (.ref bd), .unset, .unset, .unset, .unset, .unset, .unset, .unset, .unset] [])) _
      refine XS.iconst X134.here hx rfl (hb hby at_66) ?_
      show Steps p.tables e below (T134.setTop (mkF m 67 #[.val (.int p1), .val (.int p2), .val (.int p3), .val (.int p4), .val (.int p5), .val (.int n), .val (.int u), .val (.int v), .val (.int w), .val (.int z), .val (.ref bd), .unset, .unset, .unset, .unset, .unset, .unset, .unset, .unset] [(.int (1 : Int32))])) _
      refine st136 _ ?_
      show Steps p.tables e below (T136.setTop (mkF m 69 #[.val (.int p1), .val (.int p2), .val (.int p3), .val (.int p4), .val (.int p5), .val (.int n), .val (.int u), .val (.int v), .val (.int w), .val (.int z), .val (.ref bd), .unset, .unset, .unset, .unset, .unset, .unset, .unset, .unset] [(.ref bc)])) _
      refine XS.dup X136.here hx rfl (hb hby at_69) rfl rfl ?_
      show Steps p.tables e below (T136.setTop (mkF m 70 #[.val (.int p1), .val (.int p2), .val (.int p3), .val (.int p4), .val (.int p5), .val (.int n), .val (.int u), .val (.int v), .val (.int w), .val (.int z), .val (.ref bd), .unset, .unset, .unset, .unset, .unset, .unset, .unset, .unset] [(.ref bc), (.ref bc)])) _
      refine XS.iconst X136.here hx rfl (hb hby at_70) ?_
      show Steps p.tables e below (T136.setTop (mkF m 71 #[.val (.int p1), .val (.int p2), .val (.int p3), .val (.int p4), .val (.int p5), .val (.int n), .val (.int u), .val (.int v), .val (.int w), .val (.int z), .val (.ref bd), .unset, .unset, .unset, .unset, .unset, .unset, .unset, .unset] [(.int (0 : Int32)), (.ref bc), (.ref bc)])) _
      refine XS.iload X136.here hx rfl (hb hby at_71) rfl ?_
      show Steps p.tables e below (T136.setTop (mkF m 73 #[.val (.int p1), .val (.int p2), .val (.int p3), .val (.int p4), .val (.int p5), .val (.int n), .val (.int u), .val (.int v), .val (.int w), .val (.int z), .val (.ref bd), .unset, .unset, .unset, .unset, .unset, .unset, .unset, .unset] [(.int u), (.int (0 : Int32)), (.ref bc), (.ref bc)])) _
      refine st140 _ ?_
      show Steps p.tables e below (T140.setTop (mkF m 74 #[.val (.int p1), .val (.int p2), .val (.int p3), .val (.int p4), .val (.int p5), .val (.int n), .val (.int u), .val (.int v), .val (.int w), .val (.int z), .val (.ref bd), .unset, .unset, .unset, .unset, .unset, .unset, .unset, .unset] [(.ref bc)])) _
      refine XS.astore X140.here hx rfl (hb hby at_74) rfl rfl (l' := #[.val (.int p1), .val (.int p2), .val (.int p3), .val (.int p4), .val (.int p5), .val (.int n), .val (.int u), .val (.int v), .val (.int w), .val (.int z), .val (.ref bd), .val (.ref bc), .unset, .unset, .unset, .unset, .unset, .unset, .unset]) rfl ?_
      show Steps p.tables e below (T140.setTop (mkF m 76 #[.val (.int p1), .val (.int p2), .val (.int p3), .val (.int p4), .val (.int p5), .val (.int n), .val (.int u), .val (.int v), .val (.int w), .val (.int z), .val (.ref bd), .val (.ref bc), .unset, .unset, .unset, .unset, .unset, .unset, .unset] [])) _
      refine XS.goto X140.here hx rfl (pc0 := 76) (pc' := 208) rfl (hb hby at_76) (by decide) (by decide) ?_
      show Steps p.tables e below (T140.setTop (mkF m 208 #[.val (.int p1), .val (.int p2), .val (.int p3), .val (.int p4), .val (.int p5), .val (.int n), .val (.int u), .val (.int v), .val (.int w), .val (.int z), .val (.ref bd), .val (.ref bc), .unset, .unset, .unset, .unset, .unset, .unset, .unset] [])) _
      refine st144 _ ?_
      show Steps p.tables e below (T144.setTop (mkF m 211 #[.val (.int p1), .val (.int p2), .val (.int p3), .val (.int p4), .val (.int p5), .val (.int n), .val (.int u), .val (.int v), .val (.int w), .val (.int z), .val (.ref bd), .val (.ref bc), .unset, .unset, .unset, .unset, .unset, .unset, .unset] [(.ref bp)])) _
      refine XS.dup X144.here hx rfl (hb hby at_211) rfl rfl ?_
      show Steps p.tables e below (T144.setTop (mkF m 212 #[.val (.int p1), .val (.int p2), .val (.int p3), .val (.int p4), .val (.int p5), .val (.int n), .val (.int u), .val (.int v), .val (.int w), .val (.int z), .val (.ref bd), .val (.ref bc), .unset, .unset, .unset, .unset, .unset, .unset, .unset] [(.ref bp), (.ref bp)])) _
      refine XS.aload X144.here hx rfl (hb hby at_212) rfl rfl ?_
      show Steps p.tables e below (T144.setTop (mkF m 214 #[.val (.int p1), .val (.int p2), .val (.int p3), .val (.int p4), .val (.int p5), .val (.int n), .val (.int u), .val (.int v), .val (.int w), .val (.int z), .val (.ref bd), .val (.ref bc), .unset, .unset, .unset, .unset, .unset, .unset, .unset] [(.ref bd), (.ref bp), (.ref bp)])) _
      refine XS.aload X144.here hx rfl (hb hby at_214) rfl rfl ?_
      show Steps p.tables e below (T144.setTop (mkF m 216 #[.val (.int p1), .val (.int p2), .val (.int p3), .val (.int p4), .val (.int p5), .val (.int n), .val (.int u), .val (.int v), .val (.int w), .val (.int z), .val (.ref bd), .val (.ref bc), .unset, .unset, .unset, .unset, .unset, .unset, .unset] [(.ref bc), (.ref bd), (.ref bp), (.ref bp)])) _
      refine st149.trans ?_
      show Steps p.tables e below (T149.setTop (mkF m 219 #[.val (.int p1), .val (.int p2), .val (.int p3), .val (.int p4), .val (.int p5), .val (.int n), .val (.int u), .val (.int v), .val (.int w), .val (.int z), .val (.ref bd), .val (.ref bc), .unset, .unset, .unset, .unset, .unset, .unset, .unset] [(.ref bp)])) _
      refine XS.astore X149.here hx rfl (hb hby at_219) rfl rfl (l' := #[.val (.int p1), .val (.int p2), .val (.int p3), .val (.int p4), .val (.int p5), .val (.int n), .val (.int u), .val (.int v), .val (.int w), .val (.int z), .val (.ref bd), .val (.ref bc), .val (.ref bp), .unset, .unset, .unset, .unset, .unset, .unset]) rfl ?_
      show Steps p.tables e below (T149.setTop (mkF m 221 #[.val (.int p1), .val (.int p2), .val (.int p3), .val (.int p4), .val (.int p5), .val (.int n), .val (.int u), .val (.int v), .val (.int w), .val (.int z), .val (.ref bd), .val (.ref bc), .val (.ref bp), .unset, .unset, .unset, .unset, .unset, .unset] [])) _
      refine XS.lconst X149.here hx rfl (hb hby at_221) ?_
      show Steps p.tables e below (T149.setTop (mkF m 222 #[.val (.int p1), .val (.int p2), .val (.int p3), .val (.int p4), .val (.int p5), .val (.int n), .val (.int u), .val (.int v), .val (.int w), .val (.int z), .val (.ref bd), .val (.ref bc), .val (.ref bp), .unset, .unset, .unset, .unset, .unset, .unset] [(.long (0 : Int64))])) _
      refine XS.lstore X149.here hx rfl (hb hby at_222) rfl (l' := #[.val (.int p1), .val (.int p2), .val (.int p3), .val (.int p4), .val (.int p5), .val (.int n), .val (.int u), .val (.int v), .val (.int w), .val (.int z), .val (.ref bd), .val (.ref bc), .val (.ref bp), .val (.long (0 : Int64)), .second, .unset, .unset, .unset, .unset]) rfl ?_
      show Steps p.tables e below (T149.setTop (mkF m 224 #[.val (.int p1), .val (.int p2), .val (.int p3), .val (.int p4), .val (.int p5), .val (.int n), .val (.int u), .val (.int v), .val (.int w), .val (.int z), .val (.ref bd), .val (.ref bc), .val (.ref bp), .val (.long (0 : Int64)), .second, .unset, .unset, .unset, .unset] [])) _
      refine XS.iload X149.here hx rfl (hb hby at_224) rfl ?_
      show Steps p.tables e below (T149.setTop (mkF m 226 #[.val (.int p1), .val (.int p2), .val (.int p3), .val (.int p4), .val (.int p5), .val (.int n), .val (.int u), .val (.int v), .val (.int w), .val (.int z), .val (.ref bd), .val (.ref bc), .val (.ref bp), .val (.long (0 : Int64)), .second, .unset, .unset, .unset, .unset] [(.int n)])) _
      refine XS.iconst X149.here hx rfl (hb hby at_226) ?_
      show Steps p.tables e below (T149.setTop (mkF m 227 #[.val (.int p1), .val (.int p2), .val (.int p3), .val (.int p4), .val (.int p5), .val (.int n), .val (.int u), .val (.int v), .val (.int w), .val (.int z), .val (.ref bd), .val (.ref bc), .val (.ref bp), .val (.long (0 : Int64)), .second, .unset, .unset, .unset, .unset] [(.int (1 : Int32)), (.int n)])) _
      refine XS.icmpNo X149.here hx rfl (hb hby at_227) rfl (flt (by rw [q]; decide)).1 ?_
      show Steps p.tables e below (T149.setTop (mkF m 230 #[.val (.int p1), .val (.int p2), .val (.int p3), .val (.int p4), .val (.int p5), .val (.int n), .val (.int u), .val (.int v), .val (.int w), .val (.int z), .val (.ref bd), .val (.ref bc), .val (.ref bp), .val (.long (0 : Int64)), .second, .unset, .unset, .unset, .unset] [])) _
      refine XS.lload X149.here hx rfl (hb hby at_230) rfl ?_
      show Steps p.tables e below (T149.setTop (mkF m 232 #[.val (.int p1), .val (.int p2), .val (.int p3), .val (.int p4), .val (.int p5), .val (.int n), .val (.int u), .val (.int v), .val (.int w), .val (.int z), .val (.ref bd), .val (.ref bc), .val (.ref bp), .val (.long (0 : Int64)), .second, .unset, .unset, .unset, .unset] [(.long (0 : Int64))])) _
      refine XS.iload X149.here hx rfl (hb hby at_232) rfl ?_
      show Steps p.tables e below (T149.setTop (mkF m 234 #[.val (.int p1), .val (.int p2), .val (.int p3), .val (.int p4), .val (.int p5), .val (.int n), .val (.int u), .val (.int v), .val (.int w), .val (.int z), .val (.ref bd), .val (.ref bc), .val (.ref bp), .val (.long (0 : Int64)), .second, .unset, .unset, .unset, .unset] [(.int u), (.long (0 : Int64))])) _
      refine XS.i2l X149.here hx rfl (hb hby at_234) rfl ?_
      show Steps p.tables e below (T149.setTop (mkF m 235 #[.val (.int p1), .val (.int p2), .val (.int p3), .val (.int p4), .val (.int p5), .val (.int n), .val (.int u), .val (.int v), .val (.int w), .val (.int z), .val (.ref bd), .val (.ref bc), .val (.ref bp), .val (.long (0 : Int64)), .second, .unset, .unset, .unset, .unset] [(.long (u.toInt64)), (.long (0 : Int64))])) _
      refine XS.ladd X149.here hx rfl (hb hby at_235) rfl ?_
      show Steps p.tables e below (T149.setTop (mkF m 236 #[.val (.int p1), .val (.int p2), .val (.int p3), .val (.int p4), .val (.int p5), .val (.int n), .val (.int u), .val (.int v), .val (.int w), .val (.int z), .val (.ref bd), .val (.ref bc), .val (.ref bp), .val (.long (0 : Int64)), .second, .unset, .unset, .unset, .unset] [(.long ((0 : Int64) + (u.toInt64)))])) _
      refine XS.lstore X149.here hx rfl (hb hby at_236) rfl (l' := #[.val (.int p1), .val (.int p2), .val (.int p3), .val (.int p4), .val (.int p5), .val (.int n), .val (.int u), .val (.int v), .val (.int w), .val (.int z), .val (.ref bd), .val (.ref bc), .val (.ref bp), .val (.long ((0 : Int64) + (u.toInt64))), .second, .unset, .unset, .unset, .unset]) rfl ?_
      show Steps p.tables e below (T149.setTop (mkF m 238 #[.val (.int p1), .val (.int p2), .val (.int p3), .val (.int p4), .val (.int p5), .val (.int n), .val (.int u), .val (.int v), .val (.int w), .val (.int z), .val (.ref bd), .val (.ref bc), .val (.ref bp), .val (.long ((0 : Int64) + (u.toInt64))), .second, .unset, .unset, .unset, .unset] [])) _
      refine XS.iload X149.here hx rfl (hb hby at_238) rfl ?_
      show Steps p.tables e below (T149.setTop (mkF m 240 #[.val (.int p1), .val (.int p2), .val (.int p3), .val (.int p4), .val (.int p5), .val (.int n), .val (.int u), .val (.int v), .val (.int w), .val (.int z), .val (.ref bd), .val (.ref bc), .val (.ref bp), .val (.long ((0 : Int64) + (u.toInt64))), .second, .unset, .unset, .unset, .unset] [(.int n)])) _
      refine XS.iconst X149.here hx rfl (hb hby at_240) ?_
      show Steps p.tables e below (T149.setTop (mkF m 241 #[.val (.int p1), .val (.int p2), .val (.int p3), .val (.int p4), .val (.int p5), .val (.int n), .val (.int u), .val (.int v), .val (.int w), .val (.int z), .val (.ref bd), .val (.ref bc), .val (.ref bp), .val (.long ((0 : Int64) + (u.toInt64))), .second, .unset, .unset, .unset, .unset] [(.int (2 : Int32)), (.int n)])) _
      refine XS.icmpYes X149.here hx rfl (pc0 := 241) (pc' := 252) rfl (hb hby at_241) rfl (tlt (by rw [q]; decide)).1 (by decide) (by decide) ?_
      show Steps p.tables e below (T149.setTop (mkF m 252 #[.val (.int p1), .val (.int p2), .val (.int p3), .val (.int p4), .val (.int p5), .val (.int n), .val (.int u), .val (.int v), .val (.int w), .val (.int z), .val (.ref bd), .val (.ref bc), .val (.ref bp), .val (.long ((0 : Int64) + (u.toInt64))), .second, .unset, .unset, .unset, .unset] [])) _
      refine XS.iload X149.here hx rfl (hb hby at_252) rfl ?_
      show Steps p.tables e below (T149.setTop (mkF m 254 #[.val (.int p1), .val (.int p2), .val (.int p3), .val (.int p4), .val (.int p5), .val (.int n), .val (.int u), .val (.int v), .val (.int w), .val (.int z), .val (.ref bd), .val (.ref bc), .val (.ref bp), .val (.long ((0 : Int64) + (u.toInt64))), .second, .unset, .unset, .unset, .unset] [(.int n)])) _
      refine XS.iconst X149.here hx rfl (hb hby at_254) ?_
      show Steps p.tables e below (T149.setTop (mkF m 255 #[.val (.int p1), .val (.int p2), .val (.int p3), .val (.int p4), .val (.int p5), .val (.int n), .val (.int u), .val (.int v), .val (.int w), .val (.int z), .val (.ref bd), .val (.ref bc), .val (.ref bp), .val (.long ((0 : Int64) + (u.toInt64))), .second, .unset, .unset, .unset, .unset] [(.int (3 : Int32)), (.int n)])) _
      refine XS.icmpYes X149.here hx rfl (pc0 := 255) (pc' := 266) rfl (hb hby at_255) rfl (tlt (by rw [q]; decide)).1 (by decide) (by decide) ?_
      show Steps p.tables e below (T149.setTop (mkF m 266 #[.val (.int p1), .val (.int p2), .val (.int p3), .val (.int p4), .val (.int p5), .val (.int n), .val (.int u), .val (.int v), .val (.int w), .val (.int z), .val (.ref bd), .val (.ref bc), .val (.ref bp), .val (.long ((0 : Int64) + (u.toInt64))), .second, .unset, .unset, .unset, .unset] [])) _
      refine XS.iload X149.here hx rfl (hb hby at_266) rfl ?_
      show Steps p.tables e below (T149.setTop (mkF m 268 #[.val (.int p1), .val (.int p2), .val (.int p3), .val (.int p4), .val (.int p5), .val (.int n), .val (.int u), .val (.int v), .val (.int w), .val (.int z), .val (.ref bd), .val (.ref bc), .val (.ref bp), .val (.long ((0 : Int64) + (u.toInt64))), .second, .unset, .unset, .unset, .unset] [(.int n)])) _
      refine XS.iconst X149.here hx rfl (hb hby at_268) ?_
      show Steps p.tables e below (T149.setTop (mkF m 269 #[.val (.int p1), .val (.int p2), .val (.int p3), .val (.int p4), .val (.int p5), .val (.int n), .val (.int u), .val (.int v), .val (.int w), .val (.int z), .val (.ref bd), .val (.ref bc), .val (.ref bp), .val (.long ((0 : Int64) + (u.toInt64))), .second, .unset, .unset, .unset, .unset] [(.int (4 : Int32)), (.int n)])) _
      refine XS.icmpYes X149.here hx rfl (pc0 := 269) (pc' := 280) rfl (hb hby at_269) rfl (tlt (by rw [q]; decide)).1 (by decide) (by decide) ?_
      show Steps p.tables e below (T149.setTop (mkF m 280 #[.val (.int p1), .val (.int p2), .val (.int p3), .val (.int p4), .val (.int p5), .val (.int n), .val (.int u), .val (.int v), .val (.int w), .val (.int z), .val (.ref bd), .val (.ref bc), .val (.ref bp), .val (.long ((0 : Int64) + (u.toInt64))), .second, .unset, .unset, .unset, .unset] [])) _
      refine XS.aload X149.here hx rfl (hb hby at_280) rfl rfl ?_
      show Steps p.tables e below (T149.setTop (mkF m 282 #[.val (.int p1), .val (.int p2), .val (.int p3), .val (.int p4), .val (.int p5), .val (.int n), .val (.int u), .val (.int v), .val (.int w), .val (.int z), .val (.ref bd), .val (.ref bc), .val (.ref bp), .val (.long ((0 : Int64) + (u.toInt64))), .second, .unset, .unset, .unset, .unset] [(.ref bp)])) _
      refine st156.trans ?_
      show Steps p.tables e below (T156.setTop (mkF m 285 #[.val (.int p1), .val (.int p2), .val (.int p3), .val (.int p4), .val (.int p5), .val (.int n), .val (.int u), .val (.int v), .val (.int w), .val (.int z), .val (.ref bd), .val (.ref bc), .val (.ref bp), .val (.long ((0 : Int64) + (u.toInt64))), .second, .unset, .unset, .unset, .unset] [(.long ((0 : Int64) + (u.toInt64)))])) _
      refine XS.lstore X156.here hx rfl (hb hby at_285) rfl (l' := #[.val (.int p1), .val (.int p2), .val (.int p3), .val (.int p4), .val (.int p5), .val (.int n), .val (.int u), .val (.int v), .val (.int w), .val (.int z), .val (.ref bd), .val (.ref bc), .val (.ref bp), .val (.long ((0 : Int64) + (u.toInt64))), .second, .val (.long ((0 : Int64) + (u.toInt64))), .second, .unset, .unset]) rfl ?_
      show Steps p.tables e below (T156.setTop (mkF m 287 #[.val (.int p1), .val (.int p2), .val (.int p3), .val (.int p4), .val (.int p5), .val (.int n), .val (.int u), .val (.int v), .val (.int w), .val (.int z), .val (.ref bd), .val (.ref bc), .val (.ref bp), .val (.long ((0 : Int64) + (u.toInt64))), .second, .val (.long ((0 : Int64) + (u.toInt64))), .second, .unset, .unset] [])) _
      refine XS.aload X156.here hx rfl (hb hby at_287) rfl rfl ?_
      show Steps p.tables e below (T156.setTop (mkF m 289 #[.val (.int p1), .val (.int p2), .val (.int p3), .val (.int p4), .val (.int p5), .val (.int n), .val (.int u), .val (.int v), .val (.int w), .val (.int z), .val (.ref bd), .val (.ref bc), .val (.ref bp), .val (.long ((0 : Int64) + (u.toInt64))), .second, .val (.long ((0 : Int64) + (u.toInt64))), .second, .unset, .unset] [(.ref bp)])) _
      refine st157.trans ?_
      show Steps p.tables e below (T157.setTop (mkF m 292 #[.val (.int p1), .val (.int p2), .val (.int p3), .val (.int p4), .val (.int p5), .val (.int n), .val (.int u), .val (.int v), .val (.int w), .val (.int z), .val (.ref bd), .val (.ref bc), .val (.ref bp), .val (.long ((0 : Int64) + (u.toInt64))), .second, .val (.long ((0 : Int64) + (u.toInt64))), .second, .unset, .unset] [(.long ((0 : Int64) + (u.toInt64)))])) _
      refine XS.lstore X157.here hx rfl (hb hby at_292) rfl (l' := #[.val (.int p1), .val (.int p2), .val (.int p3), .val (.int p4), .val (.int p5), .val (.int n), .val (.int u), .val (.int v), .val (.int w), .val (.int z), .val (.ref bd), .val (.ref bc), .val (.ref bp), .val (.long ((0 : Int64) + (u.toInt64))), .second, .val (.long ((0 : Int64) + (u.toInt64))), .second, .val (.long ((0 : Int64) + (u.toInt64))), .second]) rfl ?_
      show Steps p.tables e below (T157.setTop (mkF m 294 #[.val (.int p1), .val (.int p2), .val (.int p3), .val (.int p4), .val (.int p5), .val (.int n), .val (.int u), .val (.int v), .val (.int w), .val (.int z), .val (.ref bd), .val (.ref bc), .val (.ref bp), .val (.long ((0 : Int64) + (u.toInt64))), .second, .val (.long ((0 : Int64) + (u.toInt64))), .second, .val (.long ((0 : Int64) + (u.toInt64))), .second] [])) _
      refine XS.lload X157.here hx rfl (hb hby at_294) rfl ?_
      show Steps p.tables e below (T157.setTop (mkF m 296 #[.val (.int p1), .val (.int p2), .val (.int p3), .val (.int p4), .val (.int p5), .val (.int n), .val (.int u), .val (.int v), .val (.int w), .val (.int z), .val (.ref bd), .val (.ref bc), .val (.ref bp), .val (.long ((0 : Int64) + (u.toInt64))), .second, .val (.long ((0 : Int64) + (u.toInt64))), .second, .val (.long ((0 : Int64) + (u.toInt64))), .second] [(.long ((0 : Int64) + (u.toInt64)))])) _
      refine XS.lload X157.here hx rfl (hb hby at_296) rfl ?_
      show Steps p.tables e below (T157.setTop (mkF m 298 #[.val (.int p1), .val (.int p2), .val (.int p3), .val (.int p4), .val (.int p5), .val (.int n), .val (.int u), .val (.int v), .val (.int w), .val (.int z), .val (.ref bd), .val (.ref bc), .val (.ref bp), .val (.long ((0 : Int64) + (u.toInt64))), .second, .val (.long ((0 : Int64) + (u.toInt64))), .second, .val (.long ((0 : Int64) + (u.toInt64))), .second] [(.long ((0 : Int64) + (u.toInt64))), (.long ((0 : Int64) + (u.toInt64)))])) _
      refine XS.lcmp X157.here hx rfl (hb hby at_298) rfl ?_
      show Steps p.tables e below (T157.setTop (mkF m 299 #[.val (.int p1), .val (.int p2), .val (.int p3), .val (.int p4), .val (.int p5), .val (.int n), .val (.int u), .val (.int v), .val (.int w), .val (.int z), .val (.ref bd), .val (.ref bc), .val (.ref bp), .val (.long ((0 : Int64) + (u.toInt64))), .second, .val (.long ((0 : Int64) + (u.toInt64))), .second, .val (.long ((0 : Int64) + (u.toInt64))), .second] [(.int (lcmpW ((0 : Int64) + (u.toInt64)) ((0 : Int64) + (u.toInt64))))])) _
      refine XS.ifNo X157.here hx rfl (hb hby at_299) rfl ((if0 _ _).trans (teq ((lw_eq _ _).mpr rfl)).2) ?_
      show Steps p.tables e below (T157.setTop (mkF m 302 #[.val (.int p1), .val (.int p2), .val (.int p3), .val (.int p4), .val (.int p5), .val (.int n), .val (.int u), .val (.int v), .val (.int w), .val (.int z), .val (.ref bd), .val (.ref bc), .val (.ref bp), .val (.long ((0 : Int64) + (u.toInt64))), .second, .val (.long ((0 : Int64) + (u.toInt64))), .second, .val (.long ((0 : Int64) + (u.toInt64))), .second] [])) _
      refine XS.lload X157.here hx rfl (hb hby at_302) rfl ?_
      show Steps p.tables e below (T157.setTop (mkF m 304 #[.val (.int p1), .val (.int p2), .val (.int p3), .val (.int p4), .val (.int p5), .val (.int n), .val (.int u), .val (.int v), .val (.int w), .val (.int z), .val (.ref bd), .val (.ref bc), .val (.ref bp), .val (.long ((0 : Int64) + (u.toInt64))), .second, .val (.long ((0 : Int64) + (u.toInt64))), .second, .val (.long ((0 : Int64) + (u.toInt64))), .second] [(.long ((0 : Int64) + (u.toInt64)))])) _
      refine XS.lload X157.here hx rfl (hb hby at_304) rfl ?_
      show Steps p.tables e below (T157.setTop (mkF m 306 #[.val (.int p1), .val (.int p2), .val (.int p3), .val (.int p4), .val (.int p5), .val (.int n), .val (.int u), .val (.int v), .val (.int w), .val (.int z), .val (.ref bd), .val (.ref bc), .val (.ref bp), .val (.long ((0 : Int64) + (u.toInt64))), .second, .val (.long ((0 : Int64) + (u.toInt64))), .second, .val (.long ((0 : Int64) + (u.toInt64))), .second] [(.long ((0 : Int64) + (u.toInt64))), (.long ((0 : Int64) + (u.toInt64)))])) _
      refine XS.lcmp X157.here hx rfl (hb hby at_306) rfl ?_
      show Steps p.tables e below (T157.setTop (mkF m 307 #[.val (.int p1), .val (.int p2), .val (.int p3), .val (.int p4), .val (.int p5), .val (.int n), .val (.int u), .val (.int v), .val (.int w), .val (.int z), .val (.ref bd), .val (.ref bc), .val (.ref bp), .val (.long ((0 : Int64) + (u.toInt64))), .second, .val (.long ((0 : Int64) + (u.toInt64))), .second, .val (.long ((0 : Int64) + (u.toInt64))), .second] [(.int (lcmpW ((0 : Int64) + (u.toInt64)) ((0 : Int64) + (u.toInt64))))])) _
      refine XS.ifNo X157.here hx rfl (hb hby at_307) rfl ((if0 _ _).trans (teq ((lw_eq _ _).mpr rfl)).2) ?_
      show Steps p.tables e below (T157.setTop (mkF m 310 #[.val (.int p1), .val (.int p2), .val (.int p3), .val (.int p4), .val (.int p5), .val (.int n), .val (.int u), .val (.int v), .val (.int w), .val (.int z), .val (.ref bd), .val (.ref bc), .val (.ref bp), .val (.long ((0 : Int64) + (u.toInt64))), .second, .val (.long ((0 : Int64) + (u.toInt64))), .second, .val (.long ((0 : Int64) + (u.toInt64))), .second] [])) _
      refine XS.iconst X157.here hx rfl (hb hby at_310) ?_
      show Steps p.tables e below (T157.setTop (mkF m 311 #[.val (.int p1), .val (.int p2), .val (.int p3), .val (.int p4), .val (.int p5), .val (.int n), .val (.int u), .val (.int v), .val (.int w), .val (.int z), .val (.ref bd), .val (.ref bc), .val (.ref bp), .val (.long ((0 : Int64) + (u.toInt64))), .second, .val (.long ((0 : Int64) + (u.toInt64))), .second, .val (.long ((0 : Int64) + (u.toInt64))), .second] [(.int (1 : Int32))])) _
      refine XS.goto X157.here hx rfl (pc0 := 311) (pc' := 315) rfl (hb hby at_311) (by decide) (by decide) ?_
      exact k_)
    obtain ⟨fs, hr, hrun, hended, hW, hsame⟩ := X157.leave (v := some (.int (1 : Int32))) (fun h => by rw [Bd.returns] at h; cases h)
    refine ⟨_, _, pre158 _ ?_, hrun, hended, _, _, rfl, ?_, ⟨_, rfl⟩, hW, hsame.mono (by decide) (by decide)⟩
    · show Steps p.tables e below (T157.setTop (mkF m 315 #[.val (.int p1), .val (.int p2), .val (.int p3), .val (.int p4), .val (.int p5), .val (.int n), .val (.int u), .val (.int v), .val (.int w), .val (.int z), .val (.ref bd), .val (.ref bc), .val (.ref bp), .val (.long ((0 : Int64) + (u.toInt64))), .second, .val (.long ((0 : Int64) + (u.toInt64))), .second, .val (.long ((0 : Int64) + (u.toInt64))), .second] [(.int (1 : Int32))])) _
      exact retN X157 hx (t := .boolean) Bd.returns (by simp) (hb hby at_315) hr
    · show Qrm0 Z p1 p2 p3 p4 p5 h0 n0 _ T157.heap _
      rw [e157]
      exact ⟨rfl, N157⟩
  · skip
    obtain ⟨T159, h159, k_bd, X159, e159, Ext_bd, A_bd, st159⟩ := newP X108 hx hZ (hw _ (List.mem_of_getElem? (i := 5) rfl)) e108 (g := (mkF m 86 #[.val (.int p1), .val (.int p2), .val (.int p3), .val (.int p4), .val (.int p5), .val (.int n), .val (.int u), .val (.int v), .val (.int w), .val (.int z), .unset, .unset, .unset, .unset, .unset, .unset, .unset, .unset, .unset] [(.int (2 : Int32))])) rfl (hb hby at_86) rfl (by decide) (cap := 2) (by decide) (by decide) (by decide) (by decide)
    obtain ⟨bd, eq_bd⟩ : ∃ z, z = h0.size := ⟨_, rfl⟩
    rw [← eq_bd] at A_bd st159
    have g_bd : n0 ≤ bd := Nat.le_trans Z0 (Nat.le_of_eq eq_bd.symm)
    have Z160 : n0 ≤ h159.size := Nat.le_trans Z0 (Ext_bd.1)
    have V_bd : Arv Z h159 bd k_bd .int (2 : Int32) [(.int (0 : Int32)), (.int (0 : Int32))] (.int (0 : Int32)) := (Arv.new A_bd (by decide)).pad (pad_rep [] (.int (0 : Int32)) 2)
    obtain ⟨cl161, Ar161, qk161, Sz161, Ng161, Hs161, Gs161⟩ := V_bd
    have hin161 : ¬ ((0 : Int32) < 0 ∨ cl161.slots.size ≤ ((0 : Int32)).toNatClampNeg) := inb_of Sz161 ⟨by decide, by decide⟩
    obtain ⟨T162, h162, X162, e162, W162, st162⟩ := stI X159 hx hZ e159 Ar161 (j := (0 : Int32)) hin161 (g := (mkF m 91 #[.val (.int p1), .val (.int p2), .val (.int p3), .val (.int p4), .val (.int p5), .val (.int n), .val (.int u), .val (.int v), .val (.int w), .val (.int z), .unset, .unset, .unset, .unset, .unset, .unset, .unset, .unset, .unset] [(.int (0 : Int32)), (.int (0 : Int32)), (.ref bd), (.ref bd)])) rfl rfl (hb hby at_91)
    have V_bd_162 : Arv Z h162 bd k_bd .int (2 : Int32) [(.int (0 : Int32)), (.int (0 : Int32))] (.int (0 : Int32)) := Arv.set Ar161 qk161 Sz161 Ng161 Hs161 Gs161 rfl W162 0 rfl (Nat.le_of_ble_eq_true rfl)
    have N162 := Fr.snoc X162 N108 g_bd
    have Z163 : n0 ≤ h162.size := Nat.le_trans Z160 ((Keep.of_wr W162).1)
    obtain ⟨cl164, Ar164, qk164, Sz164, Ng164, Hs164, Gs164⟩ := V_bd_162
    have hin164 : ¬ ((1 : Int32) < 0 ∨ cl164.slots.size ≤ ((1 : Int32)).toNatClampNeg) := inb_of Sz164 ⟨by decide, by decide⟩
    obtain ⟨T165, h165, X165, e165, W165, st165⟩ := stI X162 hx hZ e162 Ar164 (j := (1 : Int32)) hin164 (g := (mkF m 95 #[.val (.int p1), .val (.int p2), .val (.int p3), .val (.int p4), .val (.int p5), .val (.int n), .val (.int u), .val (.int v), .val (.int w), .val (.int z), .unset, .unset, .unset, .unset, .unset, .unset, .unset, .unset, .unset] [(.int (1 : Int32)), (.int (1 : Int32)), (.ref bd), (.ref bd)])) rfl rfl (hb hby at_95)
    have V_bd_165 : Arv Z h165 bd k_bd .int (2 : Int32) [(.int (0 : Int32)), (.int (1 : Int32))] (.int (0 : Int32)) := Arv.set Ar164 qk164 Sz164 Ng164 Hs164 Gs164 rfl W165 1 rfl (Nat.le_of_ble_eq_true rfl)
    have N165 := Fr.snoc X165 N162 g_bd
    have Z166 : n0 ≤ h165.size := Nat.le_trans Z163 ((Keep.of_wr W165).1)
    obtain ⟨T167, h167, k_bc, X167, e167, Ext_bc, A_bc, st167⟩ := newP X165 hx hZ (hw _ (List.mem_of_getElem? (i := 5) rfl)) e165 (g := (mkF m 99 #[.val (.int p1), .val (.int p2), .val (.int p3), .val (.int p4), .val (.int p5), .val (.int n), .val (.int u), .val (.int v), .val (.int w), .val (.int z), .val (.ref bd), .unset, .unset, .unset, .unset, .unset, .unset, .unset, .unset] [(.int (2 : Int32))])) rfl (hb hby at_99) rfl (by decide) (cap := 2) (by decide) (by decide) (by decide) (by decide)
    obtain ⟨bc, eq_bc⟩ : ∃ z, z = h165.size := ⟨_, rfl⟩
    rw [← eq_bc] at A_bc st167
    have g_bc : n0 ≤ bc := Nat.le_trans Z166 (Nat.le_of_eq eq_bc.symm)
    have ne_bd_bc : bd ≠ bc := Nat.ne_of_lt (Nat.lt_of_lt_of_le V_bd_165.lt (Nat.le_of_eq eq_bc.symm))
    have V_bd_168 := V_bd_165.ext Ext_bc
    have Z169 : n0 ≤ h167.size := Nat.le_trans Z166 (Ext_bc.1)
    have V_bc : Arv Z h167 bc k_bc .int (2 : Int32) [(.int (0 : Int32)), (.int (0 : Int32))] (.int (0 : Int32)) := (Arv.new A_bc (by decide)).pad (pad_rep [] (.int (0 : Int32)) 2)
    obtain ⟨cl170, Ar170, qk170, Sz170, Ng170, Hs170, Gs170⟩ := V_bc
    have hin170 : ¬ ((0 : Int32) < 0 ∨ cl170.slots.size ≤ ((0 : Int32)).toNatClampNeg) := inb_of Sz170 ⟨by decide, by decide⟩
    obtain ⟨T171, h171, X171, e171, W171, st171⟩ := stI X167 hx hZ e167 Ar170 (j := (0 : Int32)) hin170 (g := (mkF m 105 #[.val (.int p1), .val (.int p2), .val (.int p3), .val (.int p4), .val (.int p5), .val (.int n), .val (.int u), .val (.int v), .val (.int w), .val (.int z), .val (.ref bd), .unset, .unset, .unset, .unset, .unset, .unset, .unset, .unset] [(.int u), (.int (0 : Int32)), (.ref bc), (.ref bc)])) rfl rfl (hb hby at_105)
    have V_bd_172 := V_bd_168.other W171 ne_bd_bc
    have V_bc_171 : Arv Z h171 bc k_bc .int (2 : Int32) [(.int u), (.int (0 : Int32))] (.int (0 : Int32)) := Arv.set Ar170 qk170 Sz170 Ng170 Hs170 Gs170 rfl W171 0 rfl (Nat.le_of_ble_eq_true rfl)
    have N171 := Fr.snoc X171 N165 g_bc
    have Z174 : n0 ≤ h171.size := Nat.le_trans Z169 ((Keep.of_wr W171).1)
    obtain ⟨cl175, Ar175, qk175, Sz175, Ng175, Hs175, Gs175⟩ := V_bc_171
    have hin175 : ¬ ((1 : Int32) < 0 ∨ cl175.slots.size ≤ ((1 : Int32)).toNatClampNeg) := inb_of Sz175 ⟨by decide, by decide⟩
    obtain ⟨T176, h176, X176, e176, W176, st176⟩ := stI X171 hx hZ e171 Ar175 (j := (1 : Int32)) hin175 (g := (mkF m 110 #[.val (.int p1), .val (.int p2), .val (.int p3), .val (.int p4), .val (.int p5), .val (.int n), .val (.int u), .val (.int v), .val (.int w), .val (.int z), .val (.ref bd), .unset, .unset, .unset, .unset, .unset, .unset, .unset, .unset] [(.int v), (.int (1 : Int32)), (.ref bc), (.ref bc)])) rfl rfl (hb hby at_110)
    have V_bd_177 := V_bd_172.other W176 ne_bd_bc
    have V_bc_176 : Arv Z h176 bc k_bc .int (2 : Int32) [(.int u), (.int v)] (.int (0 : Int32)) := Arv.set Ar175 qk175 Sz175 Ng175 Hs175 Gs175 rfl W176 1 rfl (Nat.le_of_ble_eq_true rfl)
    have N176 := Fr.snoc X176 N171 g_bc
    have Z179 : n0 ≤ h176.size := Nat.le_trans Z174 ((Keep.of_wr W176).1)
    obtain ⟨T180, h180, X180, e180, Ext_bp, E_bp, D_bp, -, st180⟩ := newO X176 hx hZ hown (hw _ (List.mem_of_getElem? (i := 6) rfl)) (hw _ (List.mem_of_getElem? (i := 7) rfl)) (hw _ (List.mem_of_getElem? (i := 8) rfl)) e176 (g := (mkF m 208 #[.val (.int p1), .val (.int p2), .val (.int p3), .val (.int p4), .val (.int p5), .val (.int n), .val (.int u), .val (.int v), .val (.int w), .val (.int z), .val (.ref bd), .val (.ref bc), .unset, .unset, .unset, .unset, .unset, .unset, .unset] [])) rfl (hb hby at_208) (by decide) (by decide)
    obtain ⟨bp, eq_bp⟩ : ∃ z, z = h176.size := ⟨_, rfl⟩
    rw [← eq_bp] at E_bp D_bp st180
    have g_bp : n0 ≤ bp := Nat.le_trans Z179 (Nat.le_of_eq eq_bp.symm)
    have ne_bd_bp : bd ≠ bp := Nat.ne_of_lt (Nat.lt_of_lt_of_le V_bd_177.lt (Nat.le_of_eq eq_bp.symm))
    have V_bd_181 := V_bd_177.ext Ext_bp
    have ne_bc_bp : bc ≠ bp := Nat.ne_of_lt (Nat.lt_of_lt_of_le V_bc_176.lt (Nat.le_of_eq eq_bp.symm))
    have V_bc_183 := V_bc_176.ext Ext_bp
    have Z184 : n0 ≤ h180.size := Nat.le_trans Z179 (Ext_bp.1)
    have F0_bp : Fld Z h180 bp "com/example/cranfield/cranfield/index/Postings" "documents" "[I" .null := D_bp (Or.inr (hw _ (List.mem_of_getElem? (i := 16) rfl))) (ty := (.array .int)) (by decide)
    have F1_bp : Fld Z h180 bp "com/example/cranfield/cranfield/index/Postings" "counts" "[I" .null := D_bp (Or.inr (hw _ (List.mem_of_getElem? (i := 18) rfl))) (ty := (.array .int)) (by decide)
    obtain ⟨_, _, ⟨T185, L185, k185, n185⟩, -, X185, ⟨Lc185, hQ185, l185, y185, z185⟩, st185⟩ := X180.specialBack hx (y := (⟨"com/example/cranfield/cranfield/index/Postings", "<init>", "([I[I)V"⟩ : MethodName)) rfl hown (mvT hZ (hw _ (List.mem_of_getElem? (i := 9) rfl))) (mvT hZ (hw _ (List.mem_of_getElem? (i := 10) rfl))) (mvT hZ (hw _ (List.mem_of_getElem? (i := 11) rfl))) (by decide) (backOf (W := 1) (rmC l Z a0 hw [] bp bd bc k_bd k_bc (2 : Int32) [(.int (0 : Int32)), (.int (1 : Int32))] [(.int u), (.int v)] h180 n0 Z184 E_bp F0_bp F1_bp g_bp V_bd_181 V_bc_183) hZ (hw _ (List.mem_of_getElem? (i := 11) rfl)) (hw _ (List.mem_of_getElem? (i := 8) rfl)) (by decide) (by decide)) (g := (mkF m 216 #[.val (.int p1), .val (.int p2), .val (.int p3), .val (.int p4), .val (.int p5), .val (.int n), .val (.int u), .val (.int v), .val (.int w), .val (.int z), .val (.ref bd), .val (.ref bc), .unset, .unset, .unset, .unset, .unset, .unset, .unset] [(.ref bc), (.ref bd), (.ref bp), (.ref bp)])) rfl (by rw [hml]; rfl) (Steps.refl _) (a := bp) (argsL := [(.ref bd), (.ref bc)]) (rest := [(.ref bp)]) (lenOf pd_1 rfl) rfl (by show 2 * 0 + _ ≤ _; exact Nat.le_of_eq rfl) (hb hby at_216) (fun _ _ => ⟨rfl, e180, (by decide : 3 + 0 ≤ _), (by decide : 6 + 0 ≤ _)⟩)
    dsimp only [Pt.U, Pt.locs, Pt.cells, Pt.slots] at X185 l185 y185 z185 st185 hQ185
    subst l185 y185 z185
    obtain ⟨rfl, N185q, K185, E185, F185⟩ := hQ185
    have N185 := Fr.app N176 N185q
    have V_bd_186 := V_bd_181.keep K185 (ninS ne_bd_bp nin0)
    have V_bc_188 := V_bc_183.keep K185 (ninS ne_bc_bp nin0)
    have Z191 : n0 ≤ T185.heap.size := Nat.le_trans Z184 (K185.1)
    obtain ⟨cq192, kq192, q192a, q192b, q192c⟩ := isOf hZ rfl E185
    obtain ⟨_, _, ⟨T192, L192, k192, n192⟩, -, X192, ⟨Lc192, hQ192, l192, y192, z192⟩, st192⟩ := X185.virtualBack hx (y := (⟨"com/example/cranfield/cranfield/index/Postings", "collectionFrequency", "()J"⟩ : MethodName)) (z := (⟨"com/example/cranfield/cranfield/index/Postings", "collectionFrequency", "()J"⟩ : MethodName)) hown (mvT hZ (hw _ (List.mem_of_getElem? (i := 19) rfl))) (mvT hZ (hw _ (List.mem_of_getElem? (i := 20) rfl))) (notFace_of_selects (args := #[]) (mvT hZ (hw _ (List.mem_of_getElem? (i := 22) rfl)))) (mvT hZ (hw _ (List.mem_of_getElem? (i := 22) rfl))) (mvT hZ (hw _ (List.mem_of_getElem? (i := 21) rfl))) (by decide) (backOf (W := 0) (rmF2 l Z a0 hw [] bp bc k_bc u v T185.heap n0 Z191 F185 V_bc_188) hZ (hw _ (List.mem_of_getElem? (i := 23) rfl)) (hw _ (List.mem_of_getElem? (i := 8) rfl)) (by decide) (by decide)) q192a q192c (g := (mkF m 282 #[.val (.int p1), .val (.int p2), .val (.int p3), .val (.int p4), .val (.int p5), .val (.int n), .val (.int u), .val (.int v), .val (.int w), .val (.int z), .val (.ref bd), .val (.ref bc), .val (.ref bp), .val (.long (((0 : Int64) + (u.toInt64)) + (v.toInt64))), .second, .unset, .unset, .unset, .unset] [(.ref bp)])) rfl (by rw [hml]; rfl) (Steps.refl _) (argsL := []) (rest := []) (lenOf pd_2 rfl) rfl (by show 2 * 0 + _ ≤ _; exact Nat.le_of_eq rfl) (hb hby at_282) (fun _ _ => ⟨rfl, rfl, (by decide : 3 + 0 ≤ _), (by decide : 6 + 0 ≤ _)⟩)
    dsimp only [Pt.U, Pt.locs, Pt.cells, Pt.slots] at X192 l192 y192 z192 st192 hQ192
    subst l192 y192 z192
    obtain ⟨rfl, N192q, e192⟩ := hQ192
    have N192 := Fr.app N185 N192q
    obtain ⟨cq193, kq193, q193a, q193b, q193c⟩ := isOf hZ e192 E185
    obtain ⟨_, _, ⟨T193, L193, k193, n193⟩, -, X193, ⟨Lc193, hQ193, l193, y193, z193⟩, st193⟩ := X192.virtualBack hx (y := (⟨"com/example/cranfield/cranfield/index/Postings", "collectionFrequency", "()J"⟩ : MethodName)) (z := (⟨"com/example/cranfield/cranfield/index/Postings", "collectionFrequency", "()J"⟩ : MethodName)) hown (mvT hZ (hw _ (List.mem_of_getElem? (i := 19) rfl))) (mvT hZ (hw _ (List.mem_of_getElem? (i := 20) rfl))) (notFace_of_selects (args := #[]) (mvT hZ (hw _ (List.mem_of_getElem? (i := 22) rfl)))) (mvT hZ (hw _ (List.mem_of_getElem? (i := 22) rfl))) (mvT hZ (hw _ (List.mem_of_getElem? (i := 21) rfl))) (by decide) (backOf (W := 0) (rmF2 l Z a0 hw [] bp bc k_bc u v T185.heap n0 Z191 F185 V_bc_188) hZ (hw _ (List.mem_of_getElem? (i := 23) rfl)) (hw _ (List.mem_of_getElem? (i := 8) rfl)) (by decide) (by decide)) q193a q193c (g := (mkF m 289 #[.val (.int p1), .val (.int p2), .val (.int p3), .val (.int p4), .val (.int p5), .val (.int n), .val (.int u), .val (.int v), .val (.int w), .val (.int z), .val (.ref bd), .val (.ref bc), .val (.ref bp), .val (.long (((0 : Int64) + (u.toInt64)) + (v.toInt64))), .second, .val (.long (((0 : Int64) + (u.toInt64)) + (v.toInt64))), .second, .unset, .unset] [(.ref bp)])) rfl (by rw [hml]; rfl) (Steps.refl _) (argsL := []) (rest := []) (lenOf pd_2 rfl) rfl (by show 2 * 0 + _ ≤ _; exact Nat.le_of_eq rfl) (hb hby at_289) (fun _ _ => ⟨rfl, e192, (by decide : 3 + 0 ≤ _), (by decide : 6 + 0 ≤ _)⟩)
    dsimp only [Pt.U, Pt.locs, Pt.cells, Pt.slots] at X193 l193 y193 z193 st193 hQ193
    subst l193 y193 z193
    obtain ⟨rfl, N193q, e193⟩ := hQ193
    have N193 := Fr.app N192 N193q
    have pre194 : ∀ t_, Steps p.tables e below (T193.setTop (mkF m 315 #[.val (.int p1), .val (.int p2), .val (.int p3), .val (.int p4), .val (.int p5), .val (.int n), .val (.int u), .val (.int v), .val (.int w), .val (.int z), .val (.ref bd), .val (.ref bc), .val (.ref bp), .val (.long (((0 : Int64) + (u.toInt64)) + (v.toInt64))), .second, .val (.long (((0 : Int64) + (u.toInt64)) + (v.toInt64))), .second, .val (.long (((0 : Int64) + (u.toInt64)) + (v.toInt64))), .second] [(.int (1 : Int32))])) t_ → Steps p.tables e below (s₁.setTop (entryFrame m #[(.int p1), (.int p2), (.int p3), (.int p4), (.int p5)] maxLocals)) t_ := fun t_ k_ => pre110 _ (by
      show Steps p.tables e below (T108.setTop (mkF m 35 #[.val (.int p1), .val (.int p2), .val (.int p3), .val (.int p4), .val (.int p5), .val (.int n), .val (.int u), .val (.int v), .val (.int w), .val (.int z), .unset, .unset, .unset, .unset, .unset, .unset, .unset, .unset, .unset] [(.int n)])) _
      refine XS.ifYes X108.here hx rfl (pc0 := 35) (pc' := 51) rfl (hb hby at_35) rfl ((if0 _ _).trans (feq (by rw [q]; decide)).2) (by decide) (by decide) ?_
      show Steps p.tables e below (T108.setTop (mkF m 51 #[.val (.int p1), .val (.int p2), .val (.int p3), .val (.int p4), .val (.int p5), .val (.int n), .val (.int u), .val (.int v), .val (.int w), .val (.int z), .unset, .unset, .unset, .unset, .unset, .unset, .unset, .unset, .unset] [])) _
      refine XS.iload X108.here hx rfl (hb hby at_51) rfl ?_
      show Steps p.tables e below (T108.setTop (mkF m 53 #[.val (.int p1), .val (.int p2), .val (.int p3), .val (.int p4), .val (.int p5), .val (.int n), .val (.int u), .val (.int v), .val (.int w), .val (.int z), .unset, .unset, .unset, .unset, .unset, .unset, .unset, .unset, .unset] [(.int n)])) _
      refine XS.iconst X108.here hx rfl (hb hby at_53) ?_
      show Steps p.tables e below (T108.setTop (mkF m 54 #[.val (.int p1), .val (.int p2), .val (.int p3), .val (.int p4), .val (.int p5), .val (.int n), .val (.int u), .val (.int v), .val (.int w), .val (.int z), .unset, .unset, .unset, .unset, .unset, .unset, .unset, .unset, .unset] [(.int (1 : Int32)), (.int n)])) _
      refine XS.icmpYes X108.here hx rfl (pc0 := 54) (pc' := 79) rfl (hb hby at_54) rfl (feq (by rw [q]; decide)).2 (by decide) (by decide) ?_
      show Steps p.tables e below (T108.setTop (mkF m 79 #[.val (.int p1), .val (.int p2), .val (.int p3), .val (.int p4), .val (.int p5), .val (.int n), .val (.int u), .val (.int v), .val (.int w), .val (.int z), .unset, .unset, .unset, .unset, .unset, .unset, .unset, .unset, .unset] [])) _
      refine XS.iload X108.here hx rfl (hb hby at_79) rfl ?_
      show Steps p.tables e below (T108.setTop (mkF m 81 #[.val (.int p1), .val (.int p2), .val (.int p3), .val (.int p4), .val (.int p5), .val (.int n), .val (.int u), .val (.int v), .val (.int w), .val (.int z), .unset, .unset, .unset, .unset, .unset, .unset, .unset, .unset, .unset] [(.int n)])) _
      refine XS.iconst X108.here hx rfl (hb hby at_81) ?_
      show Steps p.tables e below (T108.setTop (mkF m 82 #[.val (.int p1), .val (.int p2), .val (.int p3), .val (.int p4), .val (.int p5), .val (.int n), .val (.int u), .val (.int v), .val (.int w), .val (.int z), .unset, .unset, .unset, .unset, .unset, .unset, .unset, .unset, .unset] [(.int (2 : Int32)), (.int n)])) _
      refine XS.icmpNo X108.here hx rfl (hb hby at_82) rfl (teq (by rw [q])).2 ?_
      show Steps p.tables e below (T108.setTop (mkF m 85 #[.val (.int p1), .val (.int p2), .val (.int p3), .val (.int p4), .val (.int p5), .val (.int n), .val (.int u), .val (.int v), .val (.int w), .val (.int z), .unset, .unset, .unset, .unset, .unset, .unset, .unset, .unset, .unset] [])) _
      refine XS.iconst X108.here hx rfl (hb hby at_85) ?_
      show Steps p.tables e below (T108.setTop (mkF m 86 #[.val (.int p1), .val (.int p2), .val (.int p3), .val (.int p4), .val (.int p5), .val (.int n), .val (.int u), .val (.int v), .val (.int w), .val (.int z), .unset, .unset, .unset, .unset, .unset, .unset, .unset, .unset, .unset] [(.int (2 : Int32))])) _
      refine st159 _ ?_
      show Steps p.tables e below (T159.setTop (mkF m 88 #[.val (.int p1), .val (.int p2), .val (.int p3), .val (.int p4), .val (.int p5), .val (.int n), .val (.int u), .val (.int v), .val (.int w), .val (.int z), .unset, .unset, .unset, .unset, .unset, .unset, .unset, .unset, .unset] [(.ref bd)])) _
      refine XS.dup X159.here hx rfl (hb hby at_88) rfl rfl ?_
      show Steps p.tables e below (T159.setTop (mkF m 89 #[.val (.int p1), .val (.int p2), .val (.int p3), .val (.int p4), .val (.int p5), .val (.int n), .val (.int u), .val (.int v), .val (.int w), .val (.int z), .unset, .unset, .unset, .unset, .unset, .unset, .unset, .unset, .unset] [(.ref bd), (.ref bd)])) _
      refine XS.iconst X159.here hx rfl (hb hby at_89) ?_
      show Steps p.tables e below (T159.setTop (mkF m 90 #[.val (.int p1), .val (.int p2), .val (.int p3), .val (.int p4), .val (.int p5), .val (.int n), .val (.int u), .val (.int v), .val (.int w), .val (.int z), .unset, .unset, .unset, .unset, .unset, .unset, .unset, .unset, .unset] [(.int (0 : Int32)), (.ref bd), (.ref bd)])) _
      refine XS.iconst X159.here hx rfl (hb hby at_90) ?_
      show Steps p.tables e below (T159.setTop (mkF m 91 #[.val (.int p1), .val (.int p2), .val (.int p3), .val (.int p4), .val (.int p5), .val (.int n), .val (.int u), .val (.int v), .val (.int w), .val (.int z), .unset, .unset, .unset, .unset, .unset, .unset, .unset, .unset, .unset] [(.int (0 : Int32)), (.int (0 : Int32)), (.ref bd), (.ref bd)])) _
      refine st162 _ ?_
      show Steps p.tables e below (T162.setTop (mkF m 92 #[.val (.int p1), .val (.int p2), .val (.int p3), .val (.int p4), .val (.int p5), .val (.int n), .val (.int u), .val (.int v), .val (.int w), .val (.int z), .unset, .unset, .unset, .unset, .unset, .unset, .unset, .unset, .unset] [(.ref bd)])) _
      refine XS.dup X162.here hx rfl (hb hby at_92) rfl rfl ?_
      show Steps p.tables e below (T162.setTop (mkF m 93 #[.val (.int p1), .val (.int p2), .val (.int p3), .val (.int p4), .val (.int p5), .val (.int n), .val (.int u), .val (.int v), .val (.int w), .val (.int z), .unset, .unset, .unset, .unset, .unset, .unset, .unset, .unset, .unset] [(.ref bd), (.ref bd)])) _
      refine XS.iconst X162.here hx rfl (hb hby at_93) ?_
      show Steps p.tables e below (T162.setTop (mkF m 94 #[.val (.int p1), .val (.int p2), .val (.int p3), .val (.int p4), .val (.int p5), .val (.int n), .val (.int u), .val (.int v), .val (.int w), .val (.int z), .unset, .unset, .unset, .unset, .unset, .unset, .unset, .unset, .unset] [(.int (1 : Int32)), (.ref bd), (.ref bd)])) _
      refine XS.iconst X162.here hx rfl (hb hby at_94) ?_
      show Steps p.tables e below (T162.setTop (mkF m 95 #[.val (.int p1), .val (.int p2), .val (.int p3), .val (.int p4), .val (.int p5), .val (.int n), .val (.int u), .val (.int v), .val (.int w), .val (.int z), .unset, .unset, .unset, .unset, .unset, .unset, .unset, .unset, .unset] [(.int (1 : Int32)), (.int (1 : Int32)), (.ref bd), (.ref bd)])) _
      refine st165 _ ?_
      show Steps p.tables e below (T165.setTop (mkF m 96 #[.val (.int p1), .val (.int p2), .val (.int p3), .val (.int p4), .val (.int p5), .val (.int n), .val (.int u), .val (.int v), .val (.int w), .val (.int z), .unset, .unset, .unset, .unset, .unset, .unset, .unset, .unset, .unset] [(.ref bd)])) _
      refine XS.astore X165.here hx rfl (hb hby at_96) rfl rfl (l' := #[.val (.int p1), .val (.int p2), .val (.int p3), .val (.int p4), .val (.int p5), .val (.int n), .val (.int u), .val (.int v), .val (.int w), .val (.int z), .val (.ref bd), .unset, .unset, .unset, .unset, .unset, .unset, .unset, .unset]) rfl ?_
      show Steps p.tables e below (T165.setTop (mkF m 98 #[.val (.int p1), .val (.int p2), .val (.int p3), .val (.int p4), .val (.int p5), .val (.int n), .val (.int u), .val (.int v), .val (.int w), .val (.int z), .val (.ref bd), .unset, .unset, .unset, .unset, .unset, .unset, .unset, .unset] [])) _
      refine XS.iconst X165.here hx rfl (hb hby at_98) ?_
      show Steps p.tables e below (T165.setTop (mkF m 99 #[.val (.int p1), .val (.int p2), .val (.int p3), .val (.int p4), .val (.int p5), .val (.int n), .val (.int u), .val (.int v), .val (.int w), .val (.int z), .val (.ref bd), .unset, .unset, .unset, .unset, .unset, .unset, .unset, .unset] [(.int (2 : Int32))])) _
      refine st167 _ ?_
      show Steps p.tables e below (T167.setTop (mkF m 101 #[.val (.int p1), .val (.int p2), .val (.int p3), .val (.int p4), .val (.int p5), .val (.int n), .val (.int u), .val (.int v), .val (.int w), .val (.int z), .val (.ref bd), .unset, .unset, .unset, .unset, .unset, .unset, .unset, .unset] [(.ref bc)])) _
      refine XS.dup X167.here hx rfl (hb hby at_101) rfl rfl ?_
      show Steps p.tables e below (T167.setTop (mkF m 102 #[.val (.int p1), .val (.int p2), .val (.int p3), .val (.int p4), .val (.int p5), .val (.int n), .val (.int u), .val (.int v), .val (.int w), .val (.int z), .val (.ref bd), .unset, .unset, .unset, .unset, .unset, .unset, .unset, .unset] [(.ref bc), (.ref bc)])) _
      refine XS.iconst X167.here hx rfl (hb hby at_102) ?_
      show Steps p.tables e below (T167.setTop (mkF m 103 #[.val (.int p1), .val (.int p2), .val (.int p3), .val (.int p4), .val (.int p5), .val (.int n), .val (.int u), .val (.int v), .val (.int w), .val (.int z), .val (.ref bd), .unset, .unset, .unset, .unset, .unset, .unset, .unset, .unset] [(.int (0 : Int32)), (.ref bc), (.ref bc)])) _
      refine XS.iload X167.here hx rfl (hb hby at_103) rfl ?_
      show Steps p.tables e below (T167.setTop (mkF m 105 #[.val (.int p1), .val (.int p2), .val (.int p3), .val (.int p4), .val (.int p5), .val (.int n), .val (.int u), .val (.int v), .val (.int w), .val (.int z), .val (.ref bd), .unset, .unset, .unset, .unset, .unset, .unset, .unset, .unset] [(.int u), (.int (0 : Int32)), (.ref bc), (.ref bc)])) _
      refine st171 _ ?_
      show Steps p.tables e below (T171.setTop (mkF m 106 #[.val (.int p1), .val (.int p2), .val (.int p3), .val (.int p4), .val (.int p5), .val (.int n), .val (.int u), .val (.int v), .val (.int w), .val (.int z), .val (.ref bd), .unset, .unset, .unset, .unset, .unset, .unset, .unset, .unset] [(.ref bc)])) _
      refine XS.dup X171.here hx rfl (hb hby at_106) rfl rfl ?_
      show Steps p.tables e below (T171.setTop (mkF m 107 #[.val (.int p1), .val (.int p2), .val (.int p3), .val (.int p4), .val (.int p5), .val (.int n), .val (.int u), .val (.int v), .val (.int w), .val (.int z), .val (.ref bd), .unset, .unset, .unset, .unset, .unset, .unset, .unset, .unset] [(.ref bc), (.ref bc)])) _
      refine XS.iconst X171.here hx rfl (hb hby at_107) ?_
      show Steps p.tables e below (T171.setTop (mkF m 108 #[.val (.int p1), .val (.int p2), .val (.int p3), .val (.int p4), .val (.int p5), .val (.int n), .val (.int u), .val (.int v), .val (.int w), .val (.int z), .val (.ref bd), .unset, .unset, .unset, .unset, .unset, .unset, .unset, .unset] [(.int (1 : Int32)), (.ref bc), (.ref bc)])) _
      refine XS.iload X171.here hx rfl (hb hby at_108) rfl ?_
      show Steps p.tables e below (T171.setTop (mkF m 110 #[.val (.int p1), .val (.int p2), .val (.int p3), .val (.int p4), .val (.int p5), .val (.int n), .val (.int u), .val (.int v), .val (.int w), .val (.int z), .val (.ref bd), .unset, .unset, .unset, .unset, .unset, .unset, .unset, .unset] [(.int v), (.int (1 : Int32)), (.ref bc), (.ref bc)])) _
      refine st176 _ ?_
      show Steps p.tables e below (T176.setTop (mkF m 111 #[.val (.int p1), .val (.int p2), .val (.int p3), .val (.int p4), .val (.int p5), .val (.int n), .val (.int u), .val (.int v), .val (.int w), .val (.int z), .val (.ref bd), .unset, .unset, .unset, .unset, .unset, .unset, .unset, .unset] [(.ref bc)])) _
      refine XS.astore X176.here hx rfl (hb hby at_111) rfl rfl (l' := #[.val (.int p1), .val (.int p2), .val (.int p3), .val (.int p4), .val (.int p5), .val (.int n), .val (.int u), .val (.int v), .val (.int w), .val (.int z), .val (.ref bd), .val (.ref bc), .unset, .unset, .unset, .unset, .unset, .unset, .unset]) rfl ?_
      show Steps p.tables e below (T176.setTop (mkF m 113 #[.val (.int p1), .val (.int p2), .val (.int p3), .val (.int p4), .val (.int p5), .val (.int n), .val (.int u), .val (.int v), .val (.int w), .val (.int z), .val (.ref bd), .val (.ref bc), .unset, .unset, .unset, .unset, .unset, .unset, .unset] [])) _
      refine XS.goto X176.here hx rfl (pc0 := 113) (pc' := 208) rfl (hb hby at_113) (by decide) (by decide) ?_
      show Steps p.tables e below (T176.setTop (mkF m 208 #[.val (.int p1), .val (.int p2), .val (.int p3), .val (.int p4), .val (.int p5), .val (.int n), .val (.int u), .val (.int v), .val (.int w), .val (.int z), .val (.ref bd), .val (.ref bc), .unset, .unset, .unset, .unset, .unset, .unset, .unset] [])) _
      refine st180 _ ?_
      show Steps p.tables e below (T180.setTop (mkF m 211 #[.val (.int p1), .val (.int p2), .val (.int p3), .val (.int p4), .val (.int p5), .val (.int n), .val (.int u), .val (.int v), .val (.int w), .val (.int z), .val (.ref bd), .val (.ref bc), .unset, .unset, .unset, .unset, .unset, .unset, .unset] [(.ref bp)])) _
      refine XS.dup X180.here hx rfl (hb hby at_211) rfl rfl ?_
      show Steps p.tables e below (T180.setTop (mkF m 212 #[.val (.int p1), .val (.int p2), .val (.int p3), .val (.int p4), .val (.int p5), .val (.int n), .val (.int u), .val (.int v), .val (.int w), .val (.int z), .val (.ref bd), .val (.ref bc), .unset, .unset, .unset, .unset, .unset, .unset, .unset] [(.ref bp), (.ref bp)])) _
      refine XS.aload X180.here hx rfl (hb hby at_212) rfl rfl ?_
      show Steps p.tables e below (T180.setTop (mkF m 214 #[.val (.int p1), .val (.int p2), .val (.int p3), .val (.int p4), .val (.int p5), .val (.int n), .val (.int u), .val (.int v), .val (.int w), .val (.int z), .val (.ref bd), .val (.ref bc), .unset, .unset, .unset, .unset, .unset, .unset, .unset] [(.ref bd), (.ref bp), (.ref bp)])) _
      refine XS.aload X180.here hx rfl (hb hby at_214) rfl rfl ?_
      show Steps p.tables e below (T180.setTop (mkF m 216 #[.val (.int p1), .val (.int p2), .val (.int p3), .val (.int p4), .val (.int p5), .val (.int n), .val (.int u), .val (.int v), .val (.int w), .val (.int z), .val (.ref bd), .val (.ref bc), .unset, .unset, .unset, .unset, .unset, .unset, .unset] [(.ref bc), (.ref bd), (.ref bp), (.ref bp)])) _
      refine st185.trans ?_
      show Steps p.tables e below (T185.setTop (mkF m 219 #[.val (.int p1), .val (.int p2), .val (.int p3), .val (.int p4), .val (.int p5), .val (.int n), .val (.int u), .val (.int v), .val (.int w), .val (.int z), .val (.ref bd), .val (.ref bc), .unset, .unset, .unset, .unset, .unset, .unset, .unset] [(.ref bp)])) _
      refine XS.astore X185.here hx rfl (hb hby at_219) rfl rfl (l' := #[.val (.int p1), .val (.int p2), .val (.int p3), .val (.int p4), .val (.int p5), .val (.int n), .val (.int u), .val (.int v), .val (.int w), .val (.int z), .val (.ref bd), .val (.ref bc), .val (.ref bp), .unset, .unset, .unset, .unset, .unset, .unset]) rfl ?_
      show Steps p.tables e below (T185.setTop (mkF m 221 #[.val (.int p1), .val (.int p2), .val (.int p3), .val (.int p4), .val (.int p5), .val (.int n), .val (.int u), .val (.int v), .val (.int w), .val (.int z), .val (.ref bd), .val (.ref bc), .val (.ref bp), .unset, .unset, .unset, .unset, .unset, .unset] [])) _
      refine XS.lconst X185.here hx rfl (hb hby at_221) ?_
      show Steps p.tables e below (T185.setTop (mkF m 222 #[.val (.int p1), .val (.int p2), .val (.int p3), .val (.int p4), .val (.int p5), .val (.int n), .val (.int u), .val (.int v), .val (.int w), .val (.int z), .val (.ref bd), .val (.ref bc), .val (.ref bp), .unset, .unset, .unset, .unset, .unset, .unset] [(.long (0 : Int64))])) _
      refine XS.lstore X185.here hx rfl (hb hby at_222) rfl (l' := #[.val (.int p1), .val (.int p2), .val (.int p3), .val (.int p4), .val (.int p5), .val (.int n), .val (.int u), .val (.int v), .val (.int w), .val (.int z), .val (.ref bd), .val (.ref bc), .val (.ref bp), .val (.long (0 : Int64)), .second, .unset, .unset, .unset, .unset]) rfl ?_
      show Steps p.tables e below (T185.setTop (mkF m 224 #[.val (.int p1), .val (.int p2), .val (.int p3), .val (.int p4), .val (.int p5), .val (.int n), .val (.int u), .val (.int v), .val (.int w), .val (.int z), .val (.ref bd), .val (.ref bc), .val (.ref bp), .val (.long (0 : Int64)), .second, .unset, .unset, .unset, .unset] [])) _
      refine XS.iload X185.here hx rfl (hb hby at_224) rfl ?_
      show Steps p.tables e below (T185.setTop (mkF m 226 #[.val (.int p1), .val (.int p2), .val (.int p3), .val (.int p4), .val (.int p5), .val (.int n), .val (.int u), .val (.int v), .val (.int w), .val (.int z), .val (.ref bd), .val (.ref bc), .val (.ref bp), .val (.long (0 : Int64)), .second, .unset, .unset, .unset, .unset] [(.int n)])) _
      refine XS.iconst X185.here hx rfl (hb hby at_226) ?_
      show Steps p.tables e below (T185.setTop (mkF m 227 #[.val (.int p1), .val (.int p2), .val (.int p3), .val (.int p4), .val (.int p5), .val (.int n), .val (.int u), .val (.int v), .val (.int w), .val (.int z), .val (.ref bd), .val (.ref bc), .val (.ref bp), .val (.long (0 : Int64)), .second, .unset, .unset, .unset, .unset] [(.int (1 : Int32)), (.int n)])) _
      refine XS.icmpNo X185.here hx rfl (hb hby at_227) rfl (flt (by rw [q]; decide)).1 ?_
      show Steps p.tables e below (T185.setTop (mkF m 230 #[.val (.int p1), .val (.int p2), .val (.int p3), .val (.int p4), .val (.int p5), .val (.int n), .val (.int u), .val (.int v), .val (.int w), .val (.int z), .val (.ref bd), .val (.ref bc), .val (.ref bp), .val (.long (0 : Int64)), .second, .unset, .unset, .unset, .unset] [])) _
      refine XS.lload X185.here hx rfl (hb hby at_230) rfl ?_
      show Steps p.tables e below (T185.setTop (mkF m 232 #[.val (.int p1), .val (.int p2), .val (.int p3), .val (.int p4), .val (.int p5), .val (.int n), .val (.int u), .val (.int v), .val (.int w), .val (.int z), .val (.ref bd), .val (.ref bc), .val (.ref bp), .val (.long (0 : Int64)), .second, .unset, .unset, .unset, .unset] [(.long (0 : Int64))])) _
      refine XS.iload X185.here hx rfl (hb hby at_232) rfl ?_
      show Steps p.tables e below (T185.setTop (mkF m 234 #[.val (.int p1), .val (.int p2), .val (.int p3), .val (.int p4), .val (.int p5), .val (.int n), .val (.int u), .val (.int v), .val (.int w), .val (.int z), .val (.ref bd), .val (.ref bc), .val (.ref bp), .val (.long (0 : Int64)), .second, .unset, .unset, .unset, .unset] [(.int u), (.long (0 : Int64))])) _
      refine XS.i2l X185.here hx rfl (hb hby at_234) rfl ?_
      show Steps p.tables e below (T185.setTop (mkF m 235 #[.val (.int p1), .val (.int p2), .val (.int p3), .val (.int p4), .val (.int p5), .val (.int n), .val (.int u), .val (.int v), .val (.int w), .val (.int z), .val (.ref bd), .val (.ref bc), .val (.ref bp), .val (.long (0 : Int64)), .second, .unset, .unset, .unset, .unset] [(.long (u.toInt64)), (.long (0 : Int64))])) _
      refine XS.ladd X185.here hx rfl (hb hby at_235) rfl ?_
      show Steps p.tables e below (T185.setTop (mkF m 236 #[.val (.int p1), .val (.int p2), .val (.int p3), .val (.int p4), .val (.int p5), .val (.int n), .val (.int u), .val (.int v), .val (.int w), .val (.int z), .val (.ref bd), .val (.ref bc), .val (.ref bp), .val (.long (0 : Int64)), .second, .unset, .unset, .unset, .unset] [(.long ((0 : Int64) + (u.toInt64)))])) _
      refine XS.lstore X185.here hx rfl (hb hby at_236) rfl (l' := #[.val (.int p1), .val (.int p2), .val (.int p3), .val (.int p4), .val (.int p5), .val (.int n), .val (.int u), .val (.int v), .val (.int w), .val (.int z), .val (.ref bd), .val (.ref bc), .val (.ref bp), .val (.long ((0 : Int64) + (u.toInt64))), .second, .unset, .unset, .unset, .unset]) rfl ?_
      show Steps p.tables e below (T185.setTop (mkF m 238 #[.val (.int p1), .val (.int p2), .val (.int p3), .val (.int p4), .val (.int p5), .val (.int n), .val (.int u), .val (.int v), .val (.int w), .val (.int z), .val (.ref bd), .val (.ref bc), .val (.ref bp), .val (.long ((0 : Int64) + (u.toInt64))), .second, .unset, .unset, .unset, .unset] [])) _
      refine XS.iload X185.here hx rfl (hb hby at_238) rfl ?_
      show Steps p.tables e below (T185.setTop (mkF m 240 #[.val (.int p1), .val (.int p2), .val (.int p3), .val (.int p4), .val (.int p5), .val (.int n), .val (.int u), .val (.int v), .val (.int w), .val (.int z), .val (.ref bd), .val (.ref bc), .val (.ref bp), .val (.long ((0 : Int64) + (u.toInt64))), .second, .unset, .unset, .unset, .unset] [(.int n)])) _
      refine XS.iconst X185.here hx rfl (hb hby at_240) ?_
      show Steps p.tables e below (T185.setTop (mkF m 241 #[.val (.int p1), .val (.int p2), .val (.int p3), .val (.int p4), .val (.int p5), .val (.int n), .val (.int u), .val (.int v), .val (.int w), .val (.int z), .val (.ref bd), .val (.ref bc), .val (.ref bp), .val (.long ((0 : Int64) + (u.toInt64))), .second, .unset, .unset, .unset, .unset] [(.int (2 : Int32)), (.int n)])) _
      refine XS.icmpNo X185.here hx rfl (hb hby at_241) rfl (flt (by rw [q]; decide)).1 ?_
      show Steps p.tables e below (T185.setTop (mkF m 244 #[.val (.int p1), .val (.int p2), .val (.int p3), .val (.int p4), .val (.int p5), .val (.int n), .val (.int u), .val (.int v), .val (.int w), .val (.int z), .val (.ref bd), .val (.ref bc), .val (.ref bp), .val (.long ((0 : Int64) + (u.toInt64))), .second, .unset, .unset, .unset, .unset] [])) _
      refine XS.lload X185.here hx rfl (hb hby at_244) rfl ?_
      show Steps p.tables e below (T185.setTop (mkF m 246 #[.val (.int p1), .val (.int p2), .val (.int p3), .val (.int p4), .val (.int p5), .val (.int n), .val (.int u), .val (.int v), .val (.int w), .val (.int z), .val (.ref bd), .val (.ref bc), .val (.ref bp), .val (.long ((0 : Int64) + (u.toInt64))), .second, .unset, .unset, .unset, .unset] [(.long ((0 : Int64) + (u.toInt64)))])) _
      refine XS.iload X185.here hx rfl (hb hby at_246) rfl ?_
      show Steps p.tables e below (T185.setTop (mkF m 248 #[.val (.int p1), .val (.int p2), .val (.int p3), .val (.int p4), .val (.int p5), .val (.int n), .val (.int u), .val (.int v), .val (.int w), .val (.int z), .val (.ref bd), .val (.ref bc), .val (.ref bp), .val (.long ((0 : Int64) + (u.toInt64))), .second, .unset, .unset, .unset, .unset] [(.int v), (.long ((0 : Int64) + (u.toInt64)))])) _
      refine XS.i2l X185.here hx rfl (hb hby at_248) rfl ?_
      show Steps p.tables e below (T185.setTop (mkF m 249 #[.val (.int p1), .val (.int p2), .val (.int p3), .val (.int p4), .val (.int p5), .val (.int n), .val (.int u), .val (.int v), .val (.int w), .val (.int z), .val (.ref bd), .val (.ref bc), .val (.ref bp), .val (.long ((0 : Int64) + (u.toInt64))), .second, .unset, .unset, .unset, .unset] [(.long (v.toInt64)), (.long ((0 : Int64) + (u.toInt64)))])) _
      refine XS.ladd X185.here hx rfl (hb hby at_249) rfl ?_
      show Steps p.tables e below (T185.setTop (mkF m 250 #[.val (.int p1), .val (.int p2), .val (.int p3), .val (.int p4), .val (.int p5), .val (.int n), .val (.int u), .val (.int v), .val (.int w), .val (.int z), .val (.ref bd), .val (.ref bc), .val (.ref bp), .val (.long ((0 : Int64) + (u.toInt64))), .second, .unset, .unset, .unset, .unset] [(.long (((0 : Int64) + (u.toInt64)) + (v.toInt64)))])) _
      refine XS.lstore X185.here hx rfl (hb hby at_250) rfl (l' := #[.val (.int p1), .val (.int p2), .val (.int p3), .val (.int p4), .val (.int p5), .val (.int n), .val (.int u), .val (.int v), .val (.int w), .val (.int z), .val (.ref bd), .val (.ref bc), .val (.ref bp), .val (.long (((0 : Int64) + (u.toInt64)) + (v.toInt64))), .second, .unset, .unset, .unset, .unset]) rfl ?_
      show Steps p.tables e below (T185.setTop (mkF m 252 #[.val (.int p1), .val (.int p2), .val (.int p3), .val (.int p4), .val (.int p5), .val (.int n), .val (.int u), .val (.int v), .val (.int w), .val (.int z), .val (.ref bd), .val (.ref bc), .val (.ref bp), .val (.long (((0 : Int64) + (u.toInt64)) + (v.toInt64))), .second, .unset, .unset, .unset, .unset] [])) _
      refine XS.iload X185.here hx rfl (hb hby at_252) rfl ?_
      show Steps p.tables e below (T185.setTop (mkF m 254 #[.val (.int p1), .val (.int p2), .val (.int p3), .val (.int p4), .val (.int p5), .val (.int n), .val (.int u), .val (.int v), .val (.int w), .val (.int z), .val (.ref bd), .val (.ref bc), .val (.ref bp), .val (.long (((0 : Int64) + (u.toInt64)) + (v.toInt64))), .second, .unset, .unset, .unset, .unset] [(.int n)])) _
      refine XS.iconst X185.here hx rfl (hb hby at_254) ?_
      show Steps p.tables e below (T185.setTop (mkF m 255 #[.val (.int p1), .val (.int p2), .val (.int p3), .val (.int p4), .val (.int p5), .val (.int n), .val (.int u), .val (.int v), .val (.int w), .val (.int z), .val (.ref bd), .val (.ref bc), .val (.ref bp), .val (.long (((0 : Int64) + (u.toInt64)) + (v.toInt64))), .second, .unset, .unset, .unset, .unset] [(.int (3 : Int32)), (.int n)])) _
      refine XS.icmpYes X185.here hx rfl (pc0 := 255) (pc' := 266) rfl (hb hby at_255) rfl (tlt (by rw [q]; decide)).1 (by decide) (by decide) ?_
      show Steps p.tables e below (T185.setTop (mkF m 266 #[.val (.int p1), .val (.int p2), .val (.int p3), .val (.int p4), .val (.int p5), .val (.int n), .val (.int u), .val (.int v), .val (.int w), .val (.int z), .val (.ref bd), .val (.ref bc), .val (.ref bp), .val (.long (((0 : Int64) + (u.toInt64)) + (v.toInt64))), .second, .unset, .unset, .unset, .unset] [])) _
      refine XS.iload X185.here hx rfl (hb hby at_266) rfl ?_
      show Steps p.tables e below (T185.setTop (mkF m 268 #[.val (.int p1), .val (.int p2), .val (.int p3), .val (.int p4), .val (.int p5), .val (.int n), .val (.int u), .val (.int v), .val (.int w), .val (.int z), .val (.ref bd), .val (.ref bc), .val (.ref bp), .val (.long (((0 : Int64) + (u.toInt64)) + (v.toInt64))), .second, .unset, .unset, .unset, .unset] [(.int n)])) _
      refine XS.iconst X185.here hx rfl (hb hby at_268) ?_
      show Steps p.tables e below (T185.setTop (mkF m 269 #[.val (.int p1), .val (.int p2), .val (.int p3), .val (.int p4), .val (.int p5), .val (.int n), .val (.int u), .val (.int v), .val (.int w), .val (.int z), .val (.ref bd), .val (.ref bc), .val (.ref bp), .val (.long (((0 : Int64) + (u.toInt64)) + (v.toInt64))), .second, .unset, .unset, .unset, .unset] [(.int (4 : Int32)), (.int n)])) _
      refine XS.icmpYes X185.here hx rfl (pc0 := 269) (pc' := 280) rfl (hb hby at_269) rfl (tlt (by rw [q]; decide)).1 (by decide) (by decide) ?_
      show Steps p.tables e below (T185.setTop (mkF m 280 #[.val (.int p1), .val (.int p2), .val (.int p3), .val (.int p4), .val (.int p5), .val (.int n), .val (.int u), .val (.int v), .val (.int w), .val (.int z), .val (.ref bd), .val (.ref bc), .val (.ref bp), .val (.long (((0 : Int64) + (u.toInt64)) + (v.toInt64))), .second, .unset, .unset, .unset, .unset] [])) _
      refine XS.aload X185.here hx rfl (hb hby at_280) rfl rfl ?_
      show Steps p.tables e below (T185.setTop (mkF m 282 #[.val (.int p1), .val (.int p2), .val (.int p3), .val (.int p4), .val (.int p5), .val (.int n), .val (.int u), .val (.int v), .val (.int w), .val (.int z), .val (.ref bd), .val (.ref bc), .val (.ref bp), .val (.long (((0 : Int64) + (u.toInt64)) + (v.toInt64))), .second, .unset, .unset, .unset, .unset] [(.ref bp)])) _
      refine st192.trans ?_
      show Steps p.tables e below (T192.setTop (mkF m 285 #[.val (.int p1), .val (.int p2), .val (.int p3), .val (.int p4), .val (.int p5), .val (.int n), .val (.int u), .val (.int v), .val (.int w), .val (.int z), .val (.ref bd), .val (.ref bc), .val (.ref bp), .val (.long (((0 : Int64) + (u.toInt64)) + (v.toInt64))), .second, .unset, .unset, .unset, .unset] [(.long (((0 : Int64) + (u.toInt64)) + (v.toInt64)))])) _
      refine XS.lstore X192.here hx rfl (hb hby at_285) rfl (l' := #[.val (.int p1), .val (.int p2), .val (.int p3), .val (.int p4), .val (.int p5), .val (.int n), .val (.int u), .val (.int v), .val (.int w), .val (.int z), .val (.ref bd), .val (.ref bc), .val (.ref bp), .val (.long (((0 : Int64) + (u.toInt64)) + (v.toInt64))), .second, .val (.long (((0 : Int64) + (u.toInt64)) + (v.toInt64))), .second, .unset, .unset]) rfl ?_
      show Steps p.tables e below (T192.setTop (mkF m 287 #[.val (.int p1), .val (.int p2), .val (.int p3), .val (.int p4), .val (.int p5), .val (.int n), .val (.int u), .val (.int v), .val (.int w), .val (.int z), .val (.ref bd), .val (.ref bc), .val (.ref bp), .val (.long (((0 : Int64) + (u.toInt64)) + (v.toInt64))), .second, .val (.long (((0 : Int64) + (u.toInt64)) + (v.toInt64))), .second, .unset, .unset] [])) _
      refine XS.aload X192.here hx rfl (hb hby at_287) rfl rfl ?_
      show Steps p.tables e below (T192.setTop (mkF m 289 #[.val (.int p1), .val (.int p2), .val (.int p3), .val (.int p4), .val (.int p5), .val (.int n), .val (.int u), .val (.int v), .val (.int w), .val (.int z), .val (.ref bd), .val (.ref bc), .val (.ref bp), .val (.long (((0 : Int64) + (u.toInt64)) + (v.toInt64))), .second, .val (.long (((0 : Int64) + (u.toInt64)) + (v.toInt64))), .second, .unset, .unset] [(.ref bp)])) _
      refine st193.trans ?_
      show Steps p.tables e below (T193.setTop (mkF m 292 #[.val (.int p1), .val (.int p2), .val (.int p3), .val (.int p4), .val (.int p5), .val (.int n), .val (.int u), .val (.int v), .val (.int w), .val (.int z), .val (.ref bd), .val (.ref bc), .val (.ref bp), .val (.long (((0 : Int64) + (u.toInt64)) + (v.toInt64))), .second, .val (.long (((0 : Int64) + (u.toInt64)) + (v.toInt64))), .second, .unset, .unset] [(.long (((0 : Int64) + (u.toInt64)) + (v.toInt64)))])) _
      refine XS.lstore X193.here hx rfl (hb hby at_292) rfl (l' := #[.val (.int p1), .val (.int p2), .val (.int p3), .val (.int p4), .val (.int p5), .val (.int n), .val (.int u), .val (.int v), .val (.int w), .val (.int z), .val (.ref bd), .val (.ref bc), .val (.ref bp), .val (.long (((0 : Int64) + (u.toInt64)) + (v.toInt64))), .second, .val (.long (((0 : Int64) + (u.toInt64)) + (v.toInt64))), .second, .val (.long (((0 : Int64) + (u.toInt64)) + (v.toInt64))), .second]) rfl ?_
      show Steps p.tables e below (T193.setTop (mkF m 294 #[.val (.int p1), .val (.int p2), .val (.int p3), .val (.int p4), .val (.int p5), .val (.int n), .val (.int u), .val (.int v), .val (.int w), .val (.int z), .val (.ref bd), .val (.ref bc), .val (.ref bp), .val (.long (((0 : Int64) + (u.toInt64)) + (v.toInt64))), .second, .val (.long (((0 : Int64) + (u.toInt64)) + (v.toInt64))), .second, .val (.long (((0 : Int64) + (u.toInt64)) + (v.toInt64))), .second] [])) _
      refine XS.lload X193.here hx rfl (hb hby at_294) rfl ?_
      show Steps p.tables e below (T193.setTop (mkF m 296 #[.val (.int p1), .val (.int p2), .val (.int p3), .val (.int p4), .val (.int p5), .val (.int n), .val (.int u), .val (.int v), .val (.int w), .val (.int z), .val (.ref bd), .val (.ref bc), .val (.ref bp), .val (.long (((0 : Int64) + (u.toInt64)) + (v.toInt64))), .second, .val (.long (((0 : Int64) + (u.toInt64)) + (v.toInt64))), .second, .val (.long (((0 : Int64) + (u.toInt64)) + (v.toInt64))), .second] [(.long (((0 : Int64) + (u.toInt64)) + (v.toInt64)))])) _
      refine XS.lload X193.here hx rfl (hb hby at_296) rfl ?_
      show Steps p.tables e below (T193.setTop (mkF m 298 #[.val (.int p1), .val (.int p2), .val (.int p3), .val (.int p4), .val (.int p5), .val (.int n), .val (.int u), .val (.int v), .val (.int w), .val (.int z), .val (.ref bd), .val (.ref bc), .val (.ref bp), .val (.long (((0 : Int64) + (u.toInt64)) + (v.toInt64))), .second, .val (.long (((0 : Int64) + (u.toInt64)) + (v.toInt64))), .second, .val (.long (((0 : Int64) + (u.toInt64)) + (v.toInt64))), .second] [(.long (((0 : Int64) + (u.toInt64)) + (v.toInt64))), (.long (((0 : Int64) + (u.toInt64)) + (v.toInt64)))])) _
      refine XS.lcmp X193.here hx rfl (hb hby at_298) rfl ?_
      show Steps p.tables e below (T193.setTop (mkF m 299 #[.val (.int p1), .val (.int p2), .val (.int p3), .val (.int p4), .val (.int p5), .val (.int n), .val (.int u), .val (.int v), .val (.int w), .val (.int z), .val (.ref bd), .val (.ref bc), .val (.ref bp), .val (.long (((0 : Int64) + (u.toInt64)) + (v.toInt64))), .second, .val (.long (((0 : Int64) + (u.toInt64)) + (v.toInt64))), .second, .val (.long (((0 : Int64) + (u.toInt64)) + (v.toInt64))), .second] [(.int (lcmpW (((0 : Int64) + (u.toInt64)) + (v.toInt64)) (((0 : Int64) + (u.toInt64)) + (v.toInt64))))])) _
      refine XS.ifNo X193.here hx rfl (hb hby at_299) rfl ((if0 _ _).trans (teq ((lw_eq _ _).mpr rfl)).2) ?_
      show Steps p.tables e below (T193.setTop (mkF m 302 #[.val (.int p1), .val (.int p2), .val (.int p3), .val (.int p4), .val (.int p5), .val (.int n), .val (.int u), .val (.int v), .val (.int w), .val (.int z), .val (.ref bd), .val (.ref bc), .val (.ref bp), .val (.long (((0 : Int64) + (u.toInt64)) + (v.toInt64))), .second, .val (.long (((0 : Int64) + (u.toInt64)) + (v.toInt64))), .second, .val (.long (((0 : Int64) + (u.toInt64)) + (v.toInt64))), .second] [])) _
      refine XS.lload X193.here hx rfl (hb hby at_302) rfl ?_
      show Steps p.tables e below (T193.setTop (mkF m 304 #[.val (.int p1), .val (.int p2), .val (.int p3), .val (.int p4), .val (.int p5), .val (.int n), .val (.int u), .val (.int v), .val (.int w), .val (.int z), .val (.ref bd), .val (.ref bc), .val (.ref bp), .val (.long (((0 : Int64) + (u.toInt64)) + (v.toInt64))), .second, .val (.long (((0 : Int64) + (u.toInt64)) + (v.toInt64))), .second, .val (.long (((0 : Int64) + (u.toInt64)) + (v.toInt64))), .second] [(.long (((0 : Int64) + (u.toInt64)) + (v.toInt64)))])) _
      refine XS.lload X193.here hx rfl (hb hby at_304) rfl ?_
      show Steps p.tables e below (T193.setTop (mkF m 306 #[.val (.int p1), .val (.int p2), .val (.int p3), .val (.int p4), .val (.int p5), .val (.int n), .val (.int u), .val (.int v), .val (.int w), .val (.int z), .val (.ref bd), .val (.ref bc), .val (.ref bp), .val (.long (((0 : Int64) + (u.toInt64)) + (v.toInt64))), .second, .val (.long (((0 : Int64) + (u.toInt64)) + (v.toInt64))), .second, .val (.long (((0 : Int64) + (u.toInt64)) + (v.toInt64))), .second] [(.long (((0 : Int64) + (u.toInt64)) + (v.toInt64))), (.long (((0 : Int64) + (u.toInt64)) + (v.toInt64)))])) _
      refine XS.lcmp X193.here hx rfl (hb hby at_306) rfl ?_
      show Steps p.tables e below (T193.setTop (mkF m 307 #[.val (.int p1), .val (.int p2), .val (.int p3), .val (.int p4), .val (.int p5), .val (.int n), .val (.int u), .val (.int v), .val (.int w), .val (.int z), .val (.ref bd), .val (.ref bc), .val (.ref bp), .val (.long (((0 : Int64) + (u.toInt64)) + (v.toInt64))), .second, .val (.long (((0 : Int64) + (u.toInt64)) + (v.toInt64))), .second, .val (.long (((0 : Int64) + (u.toInt64)) + (v.toInt64))), .second] [(.int (lcmpW (((0 : Int64) + (u.toInt64)) + (v.toInt64)) (((0 : Int64) + (u.toInt64)) + (v.toInt64))))])) _
      refine XS.ifNo X193.here hx rfl (hb hby at_307) rfl ((if0 _ _).trans (teq ((lw_eq _ _).mpr rfl)).2) ?_
      show Steps p.tables e below (T193.setTop (mkF m 310 #[.val (.int p1), .val (.int p2), .val (.int p3), .val (.int p4), .val (.int p5), .val (.int n), .val (.int u), .val (.int v), .val (.int w), .val (.int z), .val (.ref bd), .val (.ref bc), .val (.ref bp), .val (.long (((0 : Int64) + (u.toInt64)) + (v.toInt64))), .second, .val (.long (((0 : Int64) + (u.toInt64)) + (v.toInt64))), .second, .val (.long (((0 : Int64) + (u.toInt64)) + (v.toInt64))), .second] [])) _
      refine XS.iconst X193.here hx rfl (hb hby at_310) ?_
      show Steps p.tables e below (T193.setTop (mkF m 311 #[.val (.int p1), .val (.int p2), .val (.int p3), .val (.int p4), .val (.int p5), .val (.int n), .val (.int u), .val (.int v), .val (.int w), .val (.int z), .val (.ref bd), .val (.ref bc), .val (.ref bp), .val (.long (((0 : Int64) + (u.toInt64)) + (v.toInt64))), .second, .val (.long (((0 : Int64) + (u.toInt64)) + (v.toInt64))), .second, .val (.long (((0 : Int64) + (u.toInt64)) + (v.toInt64))), .second] [(.int (1 : Int32))])) _
      refine XS.goto X193.here hx rfl (pc0 := 311) (pc' := 315) rfl (hb hby at_311) (by decide) (by decide) ?_
      exact k_)
    obtain ⟨fs, hr, hrun, hended, hW, hsame⟩ := X193.leave (v := some (.int (1 : Int32))) (fun h => by rw [Bd.returns] at h; cases h)
    refine ⟨_, _, pre194 _ ?_, hrun, hended, _, _, rfl, ?_, ⟨_, rfl⟩, hW, hsame.mono (by decide) (by decide)⟩
    · show Steps p.tables e below (T193.setTop (mkF m 315 #[.val (.int p1), .val (.int p2), .val (.int p3), .val (.int p4), .val (.int p5), .val (.int n), .val (.int u), .val (.int v), .val (.int w), .val (.int z), .val (.ref bd), .val (.ref bc), .val (.ref bp), .val (.long (((0 : Int64) + (u.toInt64)) + (v.toInt64))), .second, .val (.long (((0 : Int64) + (u.toInt64)) + (v.toInt64))), .second, .val (.long (((0 : Int64) + (u.toInt64)) + (v.toInt64))), .second] [(.int (1 : Int32))])) _
      exact retN X193 hx (t := .boolean) Bd.returns (by simp) (hb hby at_315) hr
    · show Qrm0 Z p1 p2 p3 p4 p5 h0 n0 _ T193.heap _
      rw [e193]
      exact ⟨rfl, N193⟩
  · skip
    obtain ⟨T195, h195, k_bd, X195, e195, Ext_bd, A_bd, st195⟩ := newP X108 hx hZ (hw _ (List.mem_of_getElem? (i := 5) rfl)) e108 (g := (mkF m 123 #[.val (.int p1), .val (.int p2), .val (.int p3), .val (.int p4), .val (.int p5), .val (.int n), .val (.int u), .val (.int v), .val (.int w), .val (.int z), .unset, .unset, .unset, .unset, .unset, .unset, .unset, .unset, .unset] [(.int (3 : Int32))])) rfl (hb hby at_123) rfl (by decide) (cap := 3) (by decide) (by decide) (by decide) (by decide)
    obtain ⟨bd, eq_bd⟩ : ∃ z, z = h0.size := ⟨_, rfl⟩
    rw [← eq_bd] at A_bd st195
    have g_bd : n0 ≤ bd := Nat.le_trans Z0 (Nat.le_of_eq eq_bd.symm)
    have Z196 : n0 ≤ h195.size := Nat.le_trans Z0 (Ext_bd.1)
    have V_bd : Arv Z h195 bd k_bd .int (3 : Int32) [(.int (0 : Int32)), (.int (0 : Int32)), (.int (0 : Int32))] (.int (0 : Int32)) := (Arv.new A_bd (by decide)).pad (pad_rep [] (.int (0 : Int32)) 3)
    obtain ⟨cl197, Ar197, qk197, Sz197, Ng197, Hs197, Gs197⟩ := V_bd
    have hin197 : ¬ ((0 : Int32) < 0 ∨ cl197.slots.size ≤ ((0 : Int32)).toNatClampNeg) := inb_of Sz197 ⟨by decide, by decide⟩
    obtain ⟨T198, h198, X198, e198, W198, st198⟩ := stI X195 hx hZ e195 Ar197 (j := (0 : Int32)) hin197 (g := (mkF m 128 #[.val (.int p1), .val (.int p2), .val (.int p3), .val (.int p4), .val (.int p5), .val (.int n), .val (.int u), .val (.int v), .val (.int w), .val (.int z), .unset, .unset, .unset, .unset, .unset, .unset, .unset, .unset, .unset] [(.int (0 : Int32)), (.int (0 : Int32)), (.ref bd), (.ref bd)])) rfl rfl (hb hby at_128)
    have V_bd_198 : Arv Z h198 bd k_bd .int (3 : Int32) [(.int (0 : Int32)), (.int (0 : Int32)), (.int (0 : Int32))] (.int (0 : Int32)) := Arv.set Ar197 qk197 Sz197 Ng197 Hs197 Gs197 rfl W198 0 rfl (Nat.le_of_ble_eq_true rfl)
    have N198 := Fr.snoc X198 N108 g_bd
    have Z199 : n0 ≤ h198.size := Nat.le_trans Z196 ((Keep.of_wr W198).1)
    obtain ⟨cl200, Ar200, qk200, Sz200, Ng200, Hs200, Gs200⟩ := V_bd_198
    have hin200 : ¬ ((1 : Int32) < 0 ∨ cl200.slots.size ≤ ((1 : Int32)).toNatClampNeg) := inb_of Sz200 ⟨by decide, by decide⟩
    obtain ⟨T201, h201, X201, e201, W201, st201⟩ := stI X198 hx hZ e198 Ar200 (j := (1 : Int32)) hin200 (g := (mkF m 132 #[.val (.int p1), .val (.int p2), .val (.int p3), .val (.int p4), .val (.int p5), .val (.int n), .val (.int u), .val (.int v), .val (.int w), .val (.int z), .unset, .unset, .unset, .unset, .unset, .unset, .unset, .unset, .unset] [(.int (1 : Int32)), (.int (1 : Int32)), (.ref bd), (.ref bd)])) rfl rfl (hb hby at_132)
    have V_bd_201 : Arv Z h201 bd k_bd .int (3 : Int32) [(.int (0 : Int32)), (.int (1 : Int32)), (.int (0 : Int32))] (.int (0 : Int32)) := Arv.set Ar200 qk200 Sz200 Ng200 Hs200 Gs200 rfl W201 1 rfl (Nat.le_of_ble_eq_true rfl)
    have N201 := Fr.snoc X201 N198 g_bd
    have Z202 : n0 ≤ h201.size := Nat.le_trans Z199 ((Keep.of_wr W201).1)
    obtain ⟨cl203, Ar203, qk203, Sz203, Ng203, Hs203, Gs203⟩ := V_bd_201
    have hin203 : ¬ ((2 : Int32) < 0 ∨ cl203.slots.size ≤ ((2 : Int32)).toNatClampNeg) := inb_of Sz203 ⟨by decide, by decide⟩
    obtain ⟨T204, h204, X204, e204, W204, st204⟩ := stI X201 hx hZ e201 Ar203 (j := (2 : Int32)) hin203 (g := (mkF m 136 #[.val (.int p1), .val (.int p2), .val (.int p3), .val (.int p4), .val (.int p5), .val (.int n), .val (.int u), .val (.int v), .val (.int w), .val (.int z), .unset, .unset, .unset, .unset, .unset, .unset, .unset, .unset, .unset] [(.int (2 : Int32)), (.int (2 : Int32)), (.ref bd), (.ref bd)])) rfl rfl (hb hby at_136)
    have V_bd_204 : Arv Z h204 bd k_bd .int (3 : Int32) [(.int (0 : Int32)), (.int (1 : Int32)), (.int (2 : Int32))] (.int (0 : Int32)) := Arv.set Ar203 qk203 Sz203 Ng203 Hs203 Gs203 rfl W204 2 rfl (Nat.le_of_ble_eq_true rfl)
    have N204 := Fr.snoc X204 N201 g_bd
    have Z205 : n0 ≤ h204.size := Nat.le_trans Z202 ((Keep.of_wr W204).1)
    obtain ⟨T206, h206, k_bc, X206, e206, Ext_bc, A_bc, st206⟩ := newP X204 hx hZ (hw _ (List.mem_of_getElem? (i := 5) rfl)) e204 (g := (mkF m 140 #[.val (.int p1), .val (.int p2), .val (.int p3), .val (.int p4), .val (.int p5), .val (.int n), .val (.int u), .val (.int v), .val (.int w), .val (.int z), .val (.ref bd), .unset, .unset, .unset, .unset, .unset, .unset, .unset, .unset] [(.int (3 : Int32))])) rfl (hb hby at_140) rfl (by decide) (cap := 3) (by decide) (by decide) (by decide) (by decide)
    obtain ⟨bc, eq_bc⟩ : ∃ z, z = h204.size := ⟨_, rfl⟩
    rw [← eq_bc] at A_bc st206
    have g_bc : n0 ≤ bc := Nat.le_trans Z205 (Nat.le_of_eq eq_bc.symm)
    have ne_bd_bc : bd ≠ bc := Nat.ne_of_lt (Nat.lt_of_lt_of_le V_bd_204.lt (Nat.le_of_eq eq_bc.symm))
    have V_bd_207 := V_bd_204.ext Ext_bc
    have Z208 : n0 ≤ h206.size := Nat.le_trans Z205 (Ext_bc.1)
    have V_bc : Arv Z h206 bc k_bc .int (3 : Int32) [(.int (0 : Int32)), (.int (0 : Int32)), (.int (0 : Int32))] (.int (0 : Int32)) := (Arv.new A_bc (by decide)).pad (pad_rep [] (.int (0 : Int32)) 3)
    obtain ⟨cl209, Ar209, qk209, Sz209, Ng209, Hs209, Gs209⟩ := V_bc
    have hin209 : ¬ ((0 : Int32) < 0 ∨ cl209.slots.size ≤ ((0 : Int32)).toNatClampNeg) := inb_of Sz209 ⟨by decide, by decide⟩
    obtain ⟨T210, h210, X210, e210, W210, st210⟩ := stI X206 hx hZ e206 Ar209 (j := (0 : Int32)) hin209 (g := (mkF m 146 #[.val (.int p1), .val (.int p2), .val (.int p3), .val (.int p4), .val (.int p5), .val (.int n), .val (.int u), .val (.int v), .val (.int w), .val (.int z), .val (.ref bd), .unset, .unset, .unset, .unset, .unset, .unset, .unset, .unset] [(.int u), (.int (0 : Int32)), (.ref bc), (.ref bc)])) rfl rfl (hb hby at_146)
    have V_bd_211 := V_bd_207.other W210 ne_bd_bc
    have V_bc_210 : Arv Z h210 bc k_bc .int (3 : Int32) [(.int u), (.int (0 : Int32)), (.int (0 : Int32))] (.int (0 : Int32)) := Arv.set Ar209 qk209 Sz209 Ng209 Hs209 Gs209 rfl W210 0 rfl (Nat.le_of_ble_eq_true rfl)
    have N210 := Fr.snoc X210 N204 g_bc
    have Z213 : n0 ≤ h210.size := Nat.le_trans Z208 ((Keep.of_wr W210).1)
    obtain ⟨cl214, Ar214, qk214, Sz214, Ng214, Hs214, Gs214⟩ := V_bc_210
    have hin214 : ¬ ((1 : Int32) < 0 ∨ cl214.slots.size ≤ ((1 : Int32)).toNatClampNeg) := inb_of Sz214 ⟨by decide, by decide⟩
    obtain ⟨T215, h215, X215, e215, W215, st215⟩ := stI X210 hx hZ e210 Ar214 (j := (1 : Int32)) hin214 (g := (mkF m 151 #[.val (.int p1), .val (.int p2), .val (.int p3), .val (.int p4), .val (.int p5), .val (.int n), .val (.int u), .val (.int v), .val (.int w), .val (.int z), .val (.ref bd), .unset, .unset, .unset, .unset, .unset, .unset, .unset, .unset] [(.int v), (.int (1 : Int32)), (.ref bc), (.ref bc)])) rfl rfl (hb hby at_151)
    have V_bd_216 := V_bd_211.other W215 ne_bd_bc
    have V_bc_215 : Arv Z h215 bc k_bc .int (3 : Int32) [(.int u), (.int v), (.int (0 : Int32))] (.int (0 : Int32)) := Arv.set Ar214 qk214 Sz214 Ng214 Hs214 Gs214 rfl W215 1 rfl (Nat.le_of_ble_eq_true rfl)
    have N215 := Fr.snoc X215 N210 g_bc
    have Z218 : n0 ≤ h215.size := Nat.le_trans Z213 ((Keep.of_wr W215).1)
    obtain ⟨cl219, Ar219, qk219, Sz219, Ng219, Hs219, Gs219⟩ := V_bc_215
    have hin219 : ¬ ((2 : Int32) < 0 ∨ cl219.slots.size ≤ ((2 : Int32)).toNatClampNeg) := inb_of Sz219 ⟨by decide, by decide⟩
    obtain ⟨T220, h220, X220, e220, W220, st220⟩ := stI X215 hx hZ e215 Ar219 (j := (2 : Int32)) hin219 (g := (mkF m 156 #[.val (.int p1), .val (.int p2), .val (.int p3), .val (.int p4), .val (.int p5), .val (.int n), .val (.int u), .val (.int v), .val (.int w), .val (.int z), .val (.ref bd), .unset, .unset, .unset, .unset, .unset, .unset, .unset, .unset] [(.int w), (.int (2 : Int32)), (.ref bc), (.ref bc)])) rfl rfl (hb hby at_156)
    have V_bd_221 := V_bd_216.other W220 ne_bd_bc
    have V_bc_220 : Arv Z h220 bc k_bc .int (3 : Int32) [(.int u), (.int v), (.int w)] (.int (0 : Int32)) := Arv.set Ar219 qk219 Sz219 Ng219 Hs219 Gs219 rfl W220 2 rfl (Nat.le_of_ble_eq_true rfl)
    have N220 := Fr.snoc X220 N215 g_bc
    have Z223 : n0 ≤ h220.size := Nat.le_trans Z218 ((Keep.of_wr W220).1)
    obtain ⟨T224, h224, X224, e224, Ext_bp, E_bp, D_bp, -, st224⟩ := newO X220 hx hZ hown (hw _ (List.mem_of_getElem? (i := 6) rfl)) (hw _ (List.mem_of_getElem? (i := 7) rfl)) (hw _ (List.mem_of_getElem? (i := 8) rfl)) e220 (g := (mkF m 208 #[.val (.int p1), .val (.int p2), .val (.int p3), .val (.int p4), .val (.int p5), .val (.int n), .val (.int u), .val (.int v), .val (.int w), .val (.int z), .val (.ref bd), .val (.ref bc), .unset, .unset, .unset, .unset, .unset, .unset, .unset] [])) rfl (hb hby at_208) (by decide) (by decide)
    obtain ⟨bp, eq_bp⟩ : ∃ z, z = h220.size := ⟨_, rfl⟩
    rw [← eq_bp] at E_bp D_bp st224
    have g_bp : n0 ≤ bp := Nat.le_trans Z223 (Nat.le_of_eq eq_bp.symm)
    have ne_bd_bp : bd ≠ bp := Nat.ne_of_lt (Nat.lt_of_lt_of_le V_bd_221.lt (Nat.le_of_eq eq_bp.symm))
    have V_bd_225 := V_bd_221.ext Ext_bp
    have ne_bc_bp : bc ≠ bp := Nat.ne_of_lt (Nat.lt_of_lt_of_le V_bc_220.lt (Nat.le_of_eq eq_bp.symm))
    have V_bc_227 := V_bc_220.ext Ext_bp
    have Z228 : n0 ≤ h224.size := Nat.le_trans Z223 (Ext_bp.1)
    have F0_bp : Fld Z h224 bp "com/example/cranfield/cranfield/index/Postings" "documents" "[I" .null := D_bp (Or.inr (hw _ (List.mem_of_getElem? (i := 16) rfl))) (ty := (.array .int)) (by decide)
    have F1_bp : Fld Z h224 bp "com/example/cranfield/cranfield/index/Postings" "counts" "[I" .null := D_bp (Or.inr (hw _ (List.mem_of_getElem? (i := 18) rfl))) (ty := (.array .int)) (by decide)
    obtain ⟨_, _, ⟨T229, L229, k229, n229⟩, -, X229, ⟨Lc229, hQ229, l229, y229, z229⟩, st229⟩ := X224.specialBack hx (y := (⟨"com/example/cranfield/cranfield/index/Postings", "<init>", "([I[I)V"⟩ : MethodName)) rfl hown (mvT hZ (hw _ (List.mem_of_getElem? (i := 9) rfl))) (mvT hZ (hw _ (List.mem_of_getElem? (i := 10) rfl))) (mvT hZ (hw _ (List.mem_of_getElem? (i := 11) rfl))) (by decide) (backOf (W := 1) (rmC l Z a0 hw [] bp bd bc k_bd k_bc (3 : Int32) [(.int (0 : Int32)), (.int (1 : Int32)), (.int (2 : Int32))] [(.int u), (.int v), (.int w)] h224 n0 Z228 E_bp F0_bp F1_bp g_bp V_bd_225 V_bc_227) hZ (hw _ (List.mem_of_getElem? (i := 11) rfl)) (hw _ (List.mem_of_getElem? (i := 8) rfl)) (by decide) (by decide)) (g := (mkF m 216 #[.val (.int p1), .val (.int p2), .val (.int p3), .val (.int p4), .val (.int p5), .val (.int n), .val (.int u), .val (.int v), .val (.int w), .val (.int z), .val (.ref bd), .val (.ref bc), .unset, .unset, .unset, .unset, .unset, .unset, .unset] [(.ref bc), (.ref bd), (.ref bp), (.ref bp)])) rfl (by rw [hml]; rfl) (Steps.refl _) (a := bp) (argsL := [(.ref bd), (.ref bc)]) (rest := [(.ref bp)]) (lenOf pd_1 rfl) rfl (by show 2 * 0 + _ ≤ _; exact Nat.le_of_eq rfl) (hb hby at_216) (fun _ _ => ⟨rfl, e224, (by decide : 3 + 0 ≤ _), (by decide : 8 + 0 ≤ _)⟩)
    dsimp only [Pt.U, Pt.locs, Pt.cells, Pt.slots] at X229 l229 y229 z229 st229 hQ229
    subst l229 y229 z229
    obtain ⟨rfl, N229q, K229, E229, F229⟩ := hQ229
    have N229 := Fr.app N220 N229q
    have V_bd_230 := V_bd_225.keep K229 (ninS ne_bd_bp nin0)
    have V_bc_232 := V_bc_227.keep K229 (ninS ne_bc_bp nin0)
    have Z235 : n0 ≤ T229.heap.size := Nat.le_trans Z228 (K229.1)
    obtain ⟨cq236, kq236, q236a, q236b, q236c⟩ := isOf hZ rfl E229
    obtain ⟨_, _, ⟨T236, L236, k236, n236⟩, -, X236, ⟨Lc236, hQ236, l236, y236, z236⟩, st236⟩ := X229.virtualBack hx (y := (⟨"com/example/cranfield/cranfield/index/Postings", "collectionFrequency", "()J"⟩ : MethodName)) (z := (⟨"com/example/cranfield/cranfield/index/Postings", "collectionFrequency", "()J"⟩ : MethodName)) hown (mvT hZ (hw _ (List.mem_of_getElem? (i := 19) rfl))) (mvT hZ (hw _ (List.mem_of_getElem? (i := 20) rfl))) (notFace_of_selects (args := #[]) (mvT hZ (hw _ (List.mem_of_getElem? (i := 22) rfl)))) (mvT hZ (hw _ (List.mem_of_getElem? (i := 22) rfl))) (mvT hZ (hw _ (List.mem_of_getElem? (i := 21) rfl))) (by decide) (backOf (W := 0) (rmF3 l Z a0 hw [] bp bc k_bc u v w T229.heap n0 Z235 F229 V_bc_232) hZ (hw _ (List.mem_of_getElem? (i := 23) rfl)) (hw _ (List.mem_of_getElem? (i := 8) rfl)) (by decide) (by decide)) q236a q236c (g := (mkF m 282 #[.val (.int p1), .val (.int p2), .val (.int p3), .val (.int p4), .val (.int p5), .val (.int n), .val (.int u), .val (.int v), .val (.int w), .val (.int z), .val (.ref bd), .val (.ref bc), .val (.ref bp), .val (.long ((((0 : Int64) + (u.toInt64)) + (v.toInt64)) + (w.toInt64))), .second, .unset, .unset, .unset, .unset] [(.ref bp)])) rfl (by rw [hml]; rfl) (Steps.refl _) (argsL := []) (rest := []) (lenOf pd_2 rfl) rfl (by show 2 * 0 + _ ≤ _; exact Nat.le_of_eq rfl) (hb hby at_282) (fun _ _ => ⟨rfl, rfl, (by decide : 3 + 0 ≤ _), (by decide : 8 + 0 ≤ _)⟩)
    dsimp only [Pt.U, Pt.locs, Pt.cells, Pt.slots] at X236 l236 y236 z236 st236 hQ236
    subst l236 y236 z236
    obtain ⟨rfl, N236q, e236⟩ := hQ236
    have N236 := Fr.app N229 N236q
    obtain ⟨cq237, kq237, q237a, q237b, q237c⟩ := isOf hZ e236 E229
    obtain ⟨_, _, ⟨T237, L237, k237, n237⟩, -, X237, ⟨Lc237, hQ237, l237, y237, z237⟩, st237⟩ := X236.virtualBack hx (y := (⟨"com/example/cranfield/cranfield/index/Postings", "collectionFrequency", "()J"⟩ : MethodName)) (z := (⟨"com/example/cranfield/cranfield/index/Postings", "collectionFrequency", "()J"⟩ : MethodName)) hown (mvT hZ (hw _ (List.mem_of_getElem? (i := 19) rfl))) (mvT hZ (hw _ (List.mem_of_getElem? (i := 20) rfl))) (notFace_of_selects (args := #[]) (mvT hZ (hw _ (List.mem_of_getElem? (i := 22) rfl)))) (mvT hZ (hw _ (List.mem_of_getElem? (i := 22) rfl))) (mvT hZ (hw _ (List.mem_of_getElem? (i := 21) rfl))) (by decide) (backOf (W := 0) (rmF3 l Z a0 hw [] bp bc k_bc u v w T229.heap n0 Z235 F229 V_bc_232) hZ (hw _ (List.mem_of_getElem? (i := 23) rfl)) (hw _ (List.mem_of_getElem? (i := 8) rfl)) (by decide) (by decide)) q237a q237c (g := (mkF m 289 #[.val (.int p1), .val (.int p2), .val (.int p3), .val (.int p4), .val (.int p5), .val (.int n), .val (.int u), .val (.int v), .val (.int w), .val (.int z), .val (.ref bd), .val (.ref bc), .val (.ref bp), .val (.long ((((0 : Int64) + (u.toInt64)) + (v.toInt64)) + (w.toInt64))), .second, .val (.long ((((0 : Int64) + (u.toInt64)) + (v.toInt64)) + (w.toInt64))), .second, .unset, .unset] [(.ref bp)])) rfl (by rw [hml]; rfl) (Steps.refl _) (argsL := []) (rest := []) (lenOf pd_2 rfl) rfl (by show 2 * 0 + _ ≤ _; exact Nat.le_of_eq rfl) (hb hby at_289) (fun _ _ => ⟨rfl, e236, (by decide : 3 + 0 ≤ _), (by decide : 8 + 0 ≤ _)⟩)
    dsimp only [Pt.U, Pt.locs, Pt.cells, Pt.slots] at X237 l237 y237 z237 st237 hQ237
    subst l237 y237 z237
    obtain ⟨rfl, N237q, e237⟩ := hQ237
    have N237 := Fr.app N236 N237q
    have pre238 : ∀ t_, Steps p.tables e below (T237.setTop (mkF m 315 #[.val (.int p1), .val (.int p2), .val (.int p3), .val (.int p4), .val (.int p5), .val (.int n), .val (.int u), .val (.int v), .val (.int w), .val (.int z), .val (.ref bd), .val (.ref bc), .val (.ref bp), .val (.long ((((0 : Int64) + (u.toInt64)) + (v.toInt64)) + (w.toInt64))), .second, .val (.long ((((0 : Int64) + (u.toInt64)) + (v.toInt64)) + (w.toInt64))), .second, .val (.long ((((0 : Int64) + (u.toInt64)) + (v.toInt64)) + (w.toInt64))), .second] [(.int (1 : Int32))])) t_ → Steps p.tables e below (s₁.setTop (entryFrame m #[(.int p1), (.int p2), (.int p3), (.int p4), (.int p5)] maxLocals)) t_ := fun t_ k_ => pre110 _ (by
      show Steps p.tables e below (T108.setTop (mkF m 35 #[.val (.int p1), .val (.int p2), .val (.int p3), .val (.int p4), .val (.int p5), .val (.int n), .val (.int u), .val (.int v), .val (.int w), .val (.int z), .unset, .unset, .unset, .unset, .unset, .unset, .unset, .unset, .unset] [(.int n)])) _
      refine XS.ifYes X108.here hx rfl (pc0 := 35) (pc' := 51) rfl (hb hby at_35) rfl ((if0 _ _).trans (feq (by rw [q]; decide)).2) (by decide) (by decide) ?_
      show Steps p.tables e below (T108.setTop (mkF m 51 #[.val (.int p1), .val (.int p2), .val (.int p3), .val (.int p4), .val (.int p5), .val (.int n), .val (.int u), .val (.int v), .val (.int w), .val (.int z), .unset, .unset, .unset, .unset, .unset, .unset, .unset, .unset, .unset] [])) _
      refine XS.iload X108.here hx rfl (hb hby at_51) rfl ?_
      show Steps p.tables e below (T108.setTop (mkF m 53 #[.val (.int p1), .val (.int p2), .val (.int p3), .val (.int p4), .val (.int p5), .val (.int n), .val (.int u), .val (.int v), .val (.int w), .val (.int z), .unset, .unset, .unset, .unset, .unset, .unset, .unset, .unset, .unset] [(.int n)])) _
      refine XS.iconst X108.here hx rfl (hb hby at_53) ?_
      show Steps p.tables e below (T108.setTop (mkF m 54 #[.val (.int p1), .val (.int p2), .val (.int p3), .val (.int p4), .val (.int p5), .val (.int n), .val (.int u), .val (.int v), .val (.int w), .val (.int z), .unset, .unset, .unset, .unset, .unset, .unset, .unset, .unset, .unset] [(.int (1 : Int32)), (.int n)])) _
      refine XS.icmpYes X108.here hx rfl (pc0 := 54) (pc' := 79) rfl (hb hby at_54) rfl (feq (by rw [q]; decide)).2 (by decide) (by decide) ?_
      show Steps p.tables e below (T108.setTop (mkF m 79 #[.val (.int p1), .val (.int p2), .val (.int p3), .val (.int p4), .val (.int p5), .val (.int n), .val (.int u), .val (.int v), .val (.int w), .val (.int z), .unset, .unset, .unset, .unset, .unset, .unset, .unset, .unset, .unset] [])) _
      refine XS.iload X108.here hx rfl (hb hby at_79) rfl ?_
      show Steps p.tables e below (T108.setTop (mkF m 81 #[.val (.int p1), .val (.int p2), .val (.int p3), .val (.int p4), .val (.int p5), .val (.int n), .val (.int u), .val (.int v), .val (.int w), .val (.int z), .unset, .unset, .unset, .unset, .unset, .unset, .unset, .unset, .unset] [(.int n)])) _
      refine XS.iconst X108.here hx rfl (hb hby at_81) ?_
      show Steps p.tables e below (T108.setTop (mkF m 82 #[.val (.int p1), .val (.int p2), .val (.int p3), .val (.int p4), .val (.int p5), .val (.int n), .val (.int u), .val (.int v), .val (.int w), .val (.int z), .unset, .unset, .unset, .unset, .unset, .unset, .unset, .unset, .unset] [(.int (2 : Int32)), (.int n)])) _
      refine XS.icmpYes X108.here hx rfl (pc0 := 82) (pc' := 116) rfl (hb hby at_82) rfl (feq (by rw [q]; decide)).2 (by decide) (by decide) ?_
      show Steps p.tables e below (T108.setTop (mkF m 116 #[.val (.int p1), .val (.int p2), .val (.int p3), .val (.int p4), .val (.int p5), .val (.int n), .val (.int u), .val (.int v), .val (.int w), .val (.int z), .unset, .unset, .unset, .unset, .unset, .unset, .unset, .unset, .unset] [])) _
      refine XS.iload X108.here hx rfl (hb hby at_116) rfl ?_
      show Steps p.tables e below (T108.setTop (mkF m 118 #[.val (.int p1), .val (.int p2), .val (.int p3), .val (.int p4), .val (.int p5), .val (.int n), .val (.int u), .val (.int v), .val (.int w), .val (.int z), .unset, .unset, .unset, .unset, .unset, .unset, .unset, .unset, .unset] [(.int n)])) _
      refine XS.iconst X108.here hx rfl (hb hby at_118) ?_
      show Steps p.tables e below (T108.setTop (mkF m 119 #[.val (.int p1), .val (.int p2), .val (.int p3), .val (.int p4), .val (.int p5), .val (.int n), .val (.int u), .val (.int v), .val (.int w), .val (.int z), .unset, .unset, .unset, .unset, .unset, .unset, .unset, .unset, .unset] [(.int (3 : Int32)), (.int n)])) _
      refine XS.icmpNo X108.here hx rfl (hb hby at_119) rfl (teq (by rw [q])).2 ?_
      show Steps p.tables e below (T108.setTop (mkF m 122 #[.val (.int p1), .val (.int p2), .val (.int p3), .val (.int p4), .val (.int p5), .val (.int n), .val (.int u), .val (.int v), .val (.int w), .val (.int z), .unset, .unset, .unset, .unset, .unset, .unset, .unset, .unset, .unset] [])) _
      refine XS.iconst X108.here hx rfl (hb hby at_122) ?_
      show Steps p.tables e below (T108.setTop (mkF m 123 #[.val (.int p1), .val (.int p2), .val (.int p3), .val (.int p4), .val (.int p5), .val (.int n), .val (.int u), .val (.int v), .val (.int w), .val (.int z), .unset, .unset, .unset, .unset, .unset, .unset, .unset, .unset, .unset] [(.int (3 : Int32))])) _
      refine st195 _ ?_
      show Steps p.tables e below (T195.setTop (mkF m 125 #[.val (.int p1), .val (.int p2), .val (.int p3), .val (.int p4), .val (.int p5), .val (.int n), .val (.int u), .val (.int v), .val (.int w), .val (.int z), .unset, .unset, .unset, .unset, .unset, .unset, .unset, .unset, .unset] [(.ref bd)])) _
      refine XS.dup X195.here hx rfl (hb hby at_125) rfl rfl ?_
      show Steps p.tables e below (T195.setTop (mkF m 126 #[.val (.int p1), .val (.int p2), .val (.int p3), .val (.int p4), .val (.int p5), .val (.int n), .val (.int u), .val (.int v), .val (.int w), .val (.int z), .unset, .unset, .unset, .unset, .unset, .unset, .unset, .unset, .unset] [(.ref bd), (.ref bd)])) _
      refine XS.iconst X195.here hx rfl (hb hby at_126) ?_
      show Steps p.tables e below (T195.setTop (mkF m 127 #[.val (.int p1), .val (.int p2), .val (.int p3), .val (.int p4), .val (.int p5), .val (.int n), .val (.int u), .val (.int v), .val (.int w), .val (.int z), .unset, .unset, .unset, .unset, .unset, .unset, .unset, .unset, .unset] [(.int (0 : Int32)), (.ref bd), (.ref bd)])) _
      refine XS.iconst X195.here hx rfl (hb hby at_127) ?_
      show Steps p.tables e below (T195.setTop (mkF m 128 #[.val (.int p1), .val (.int p2), .val (.int p3), .val (.int p4), .val (.int p5), .val (.int n), .val (.int u), .val (.int v), .val (.int w), .val (.int z), .unset, .unset, .unset, .unset, .unset, .unset, .unset, .unset, .unset] [(.int (0 : Int32)), (.int (0 : Int32)), (.ref bd), (.ref bd)])) _
      refine st198 _ ?_
      show Steps p.tables e below (T198.setTop (mkF m 129 #[.val (.int p1), .val (.int p2), .val (.int p3), .val (.int p4), .val (.int p5), .val (.int n), .val (.int u), .val (.int v), .val (.int w), .val (.int z), .unset, .unset, .unset, .unset, .unset, .unset, .unset, .unset, .unset] [(.ref bd)])) _
      refine XS.dup X198.here hx rfl (hb hby at_129) rfl rfl ?_
      show Steps p.tables e below (T198.setTop (mkF m 130 #[.val (.int p1), .val (.int p2), .val (.int p3), .val (.int p4), .val (.int p5), .val (.int n), .val (.int u), .val (.int v), .val (.int w), .val (.int z), .unset, .unset, .unset, .unset, .unset, .unset, .unset, .unset, .unset] [(.ref bd), (.ref bd)])) _
      refine XS.iconst X198.here hx rfl (hb hby at_130) ?_
      show Steps p.tables e below (T198.setTop (mkF m 131 #[.val (.int p1), .val (.int p2), .val (.int p3), .val (.int p4), .val (.int p5), .val (.int n), .val (.int u), .val (.int v), .val (.int w), .val (.int z), .unset, .unset, .unset, .unset, .unset, .unset, .unset, .unset, .unset] [(.int (1 : Int32)), (.ref bd), (.ref bd)])) _
      refine XS.iconst X198.here hx rfl (hb hby at_131) ?_
      show Steps p.tables e below (T198.setTop (mkF m 132 #[.val (.int p1), .val (.int p2), .val (.int p3), .val (.int p4), .val (.int p5), .val (.int n), .val (.int u), .val (.int v), .val (.int w), .val (.int z), .unset, .unset, .unset, .unset, .unset, .unset, .unset, .unset, .unset] [(.int (1 : Int32)), (.int (1 : Int32)), (.ref bd), (.ref bd)])) _
      refine st201 _ ?_
      show Steps p.tables e below (T201.setTop (mkF m 133 #[.val (.int p1), .val (.int p2), .val (.int p3), .val (.int p4), .val (.int p5), .val (.int n), .val (.int u), .val (.int v), .val (.int w), .val (.int z), .unset, .unset, .unset, .unset, .unset, .unset, .unset, .unset, .unset] [(.ref bd)])) _
      refine XS.dup X201.here hx rfl (hb hby at_133) rfl rfl ?_
      show Steps p.tables e below (T201.setTop (mkF m 134 #[.val (.int p1), .val (.int p2), .val (.int p3), .val (.int p4), .val (.int p5), .val (.int n), .val (.int u), .val (.int v), .val (.int w), .val (.int z), .unset, .unset, .unset, .unset, .unset, .unset, .unset, .unset, .unset] [(.ref bd), (.ref bd)])) _
      refine XS.iconst X201.here hx rfl (hb hby at_134) ?_
      show Steps p.tables e below (T201.setTop (mkF m 135 #[.val (.int p1), .val (.int p2), .val (.int p3), .val (.int p4), .val (.int p5), .val (.int n), .val (.int u), .val (.int v), .val (.int w), .val (.int z), .unset, .unset, .unset, .unset, .unset, .unset, .unset, .unset, .unset] [(.int (2 : Int32)), (.ref bd), (.ref bd)])) _
      refine XS.iconst X201.here hx rfl (hb hby at_135) ?_
      show Steps p.tables e below (T201.setTop (mkF m 136 #[.val (.int p1), .val (.int p2), .val (.int p3), .val (.int p4), .val (.int p5), .val (.int n), .val (.int u), .val (.int v), .val (.int w), .val (.int z), .unset, .unset, .unset, .unset, .unset, .unset, .unset, .unset, .unset] [(.int (2 : Int32)), (.int (2 : Int32)), (.ref bd), (.ref bd)])) _
      refine st204 _ ?_
      show Steps p.tables e below (T204.setTop (mkF m 137 #[.val (.int p1), .val (.int p2), .val (.int p3), .val (.int p4), .val (.int p5), .val (.int n), .val (.int u), .val (.int v), .val (.int w), .val (.int z), .unset, .unset, .unset, .unset, .unset, .unset, .unset, .unset, .unset] [(.ref bd)])) _
      refine XS.astore X204.here hx rfl (hb hby at_137) rfl rfl (l' := #[.val (.int p1), .val (.int p2), .val (.int p3), .val (.int p4), .val (.int p5), .val (.int n), .val (.int u), .val (.int v), .val (.int w), .val (.int z), .val (.ref bd), .unset, .unset, .unset, .unset, .unset, .unset, .unset, .unset]) rfl ?_
      show Steps p.tables e below (T204.setTop (mkF m 139 #[.val (.int p1), .val (.int p2), .val (.int p3), .val (.int p4), .val (.int p5), .val (.int n), .val (.int u), .val (.int v), .val (.int w), .val (.int z), .val (.ref bd), .unset, .unset, .unset, .unset, .unset, .unset, .unset, .unset] [])) _
      refine XS.iconst X204.here hx rfl (hb hby at_139) ?_
      show Steps p.tables e below (T204.setTop (mkF m 140 #[.val (.int p1), .val (.int p2), .val (.int p3), .val (.int p4), .val (.int p5), .val (.int n), .val (.int u), .val (.int v), .val (.int w), .val (.int z), .val (.ref bd), .unset, .unset, .unset, .unset, .unset, .unset, .unset, .unset] [(.int (3 : Int32))])) _
      refine st206 _ ?_
      show Steps p.tables e below (T206.setTop (mkF m 142 #[.val (.int p1), .val (.int p2), .val (.int p3), .val (.int p4), .val (.int p5), .val (.int n), .val (.int u), .val (.int v), .val (.int w), .val (.int z), .val (.ref bd), .unset, .unset, .unset, .unset, .unset, .unset, .unset, .unset] [(.ref bc)])) _
      refine XS.dup X206.here hx rfl (hb hby at_142) rfl rfl ?_
      show Steps p.tables e below (T206.setTop (mkF m 143 #[.val (.int p1), .val (.int p2), .val (.int p3), .val (.int p4), .val (.int p5), .val (.int n), .val (.int u), .val (.int v), .val (.int w), .val (.int z), .val (.ref bd), .unset, .unset, .unset, .unset, .unset, .unset, .unset, .unset] [(.ref bc), (.ref bc)])) _
      refine XS.iconst X206.here hx rfl (hb hby at_143) ?_
      show Steps p.tables e below (T206.setTop (mkF m 144 #[.val (.int p1), .val (.int p2), .val (.int p3), .val (.int p4), .val (.int p5), .val (.int n), .val (.int u), .val (.int v), .val (.int w), .val (.int z), .val (.ref bd), .unset, .unset, .unset, .unset, .unset, .unset, .unset, .unset] [(.int (0 : Int32)), (.ref bc), (.ref bc)])) _
      refine XS.iload X206.here hx rfl (hb hby at_144) rfl ?_
      show Steps p.tables e below (T206.setTop (mkF m 146 #[.val (.int p1), .val (.int p2), .val (.int p3), .val (.int p4), .val (.int p5), .val (.int n), .val (.int u), .val (.int v), .val (.int w), .val (.int z), .val (.ref bd), .unset, .unset, .unset, .unset, .unset, .unset, .unset, .unset] [(.int u), (.int (0 : Int32)), (.ref bc), (.ref bc)])) _
      refine st210 _ ?_
      show Steps p.tables e below (T210.setTop (mkF m 147 #[.val (.int p1), .val (.int p2), .val (.int p3), .val (.int p4), .val (.int p5), .val (.int n), .val (.int u), .val (.int v), .val (.int w), .val (.int z), .val (.ref bd), .unset, .unset, .unset, .unset, .unset, .unset, .unset, .unset] [(.ref bc)])) _
      refine XS.dup X210.here hx rfl (hb hby at_147) rfl rfl ?_
      show Steps p.tables e below (T210.setTop (mkF m 148 #[.val (.int p1), .val (.int p2), .val (.int p3), .val (.int p4), .val (.int p5), .val (.int n), .val (.int u), .val (.int v), .val (.int w), .val (.int z), .val (.ref bd), .unset, .unset, .unset, .unset, .unset, .unset, .unset, .unset] [(.ref bc), (.ref bc)])) _
      refine XS.iconst X210.here hx rfl (hb hby at_148) ?_
      show Steps p.tables e below (T210.setTop (mkF m 149 #[.val (.int p1), .val (.int p2), .val (.int p3), .val (.int p4), .val (.int p5), .val (.int n), .val (.int u), .val (.int v), .val (.int w), .val (.int z), .val (.ref bd), .unset, .unset, .unset, .unset, .unset, .unset, .unset, .unset] [(.int (1 : Int32)), (.ref bc), (.ref bc)])) _
      refine XS.iload X210.here hx rfl (hb hby at_149) rfl ?_
      show Steps p.tables e below (T210.setTop (mkF m 151 #[.val (.int p1), .val (.int p2), .val (.int p3), .val (.int p4), .val (.int p5), .val (.int n), .val (.int u), .val (.int v), .val (.int w), .val (.int z), .val (.ref bd), .unset, .unset, .unset, .unset, .unset, .unset, .unset, .unset] [(.int v), (.int (1 : Int32)), (.ref bc), (.ref bc)])) _
      refine st215 _ ?_
      show Steps p.tables e below (T215.setTop (mkF m 152 #[.val (.int p1), .val (.int p2), .val (.int p3), .val (.int p4), .val (.int p5), .val (.int n), .val (.int u), .val (.int v), .val (.int w), .val (.int z), .val (.ref bd), .unset, .unset, .unset, .unset, .unset, .unset, .unset, .unset] [(.ref bc)])) _
      refine XS.dup X215.here hx rfl (hb hby at_152) rfl rfl ?_
      show Steps p.tables e below (T215.setTop (mkF m 153 #[.val (.int p1), .val (.int p2), .val (.int p3), .val (.int p4), .val (.int p5), .val (.int n), .val (.int u), .val (.int v), .val (.int w), .val (.int z), .val (.ref bd), .unset, .unset, .unset, .unset, .unset, .unset, .unset, .unset] [(.ref bc), (.ref bc)])) _
      refine XS.iconst X215.here hx rfl (hb hby at_153) ?_
      show Steps p.tables e below (T215.setTop (mkF m 154 #[.val (.int p1), .val (.int p2), .val (.int p3), .val (.int p4), .val (.int p5), .val (.int n), .val (.int u), .val (.int v), .val (.int w), .val (.int z), .val (.ref bd), .unset, .unset, .unset, .unset, .unset, .unset, .unset, .unset] [(.int (2 : Int32)), (.ref bc), (.ref bc)])) _
      refine XS.iload X215.here hx rfl (hb hby at_154) rfl ?_
      show Steps p.tables e below (T215.setTop (mkF m 156 #[.val (.int p1), .val (.int p2), .val (.int p3), .val (.int p4), .val (.int p5), .val (.int n), .val (.int u), .val (.int v), .val (.int w), .val (.int z), .val (.ref bd), .unset, .unset, .unset, .unset, .unset, .unset, .unset, .unset] [(.int w), (.int (2 : Int32)), (.ref bc), (.ref bc)])) _
      refine st220 _ ?_
      show Steps p.tables e below (T220.setTop (mkF m 157 #[.val (.int p1), .val (.int p2), .val (.int p3), .val (.int p4), .val (.int p5), .val (.int n), .val (.int u), .val (.int v), .val (.int w), .val (.int z), .val (.ref bd), .unset, .unset, .unset, .unset, .unset, .unset, .unset, .unset] [(.ref bc)])) _
      refine XS.astore X220.here hx rfl (hb hby at_157) rfl rfl (l' := #[.val (.int p1), .val (.int p2), .val (.int p3), .val (.int p4), .val (.int p5), .val (.int n), .val (.int u), .val (.int v), .val (.int w), .val (.int z), .val (.ref bd), .val (.ref bc), .unset, .unset, .unset, .unset, .unset, .unset, .unset]) rfl ?_
      show Steps p.tables e below (T220.setTop (mkF m 159 #[.val (.int p1), .val (.int p2), .val (.int p3), .val (.int p4), .val (.int p5), .val (.int n), .val (.int u), .val (.int v), .val (.int w), .val (.int z), .val (.ref bd), .val (.ref bc), .unset, .unset, .unset, .unset, .unset, .unset, .unset] [])) _
      refine XS.goto X220.here hx rfl (pc0 := 159) (pc' := 208) rfl (hb hby at_159) (by decide) (by decide) ?_
      show Steps p.tables e below (T220.setTop (mkF m 208 #[.val (.int p1), .val (.int p2), .val (.int p3), .val (.int p4), .val (.int p5), .val (.int n), .val (.int u), .val (.int v), .val (.int w), .val (.int z), .val (.ref bd), .val (.ref bc), .unset, .unset, .unset, .unset, .unset, .unset, .unset] [])) _
      refine st224 _ ?_
      show Steps p.tables e below (T224.setTop (mkF m 211 #[.val (.int p1), .val (.int p2), .val (.int p3), .val (.int p4), .val (.int p5), .val (.int n), .val (.int u), .val (.int v), .val (.int w), .val (.int z), .val (.ref bd), .val (.ref bc), .unset, .unset, .unset, .unset, .unset, .unset, .unset] [(.ref bp)])) _
      refine XS.dup X224.here hx rfl (hb hby at_211) rfl rfl ?_
      show Steps p.tables e below (T224.setTop (mkF m 212 #[.val (.int p1), .val (.int p2), .val (.int p3), .val (.int p4), .val (.int p5), .val (.int n), .val (.int u), .val (.int v), .val (.int w), .val (.int z), .val (.ref bd), .val (.ref bc), .unset, .unset, .unset, .unset, .unset, .unset, .unset] [(.ref bp), (.ref bp)])) _
      refine XS.aload X224.here hx rfl (hb hby at_212) rfl rfl ?_
      show Steps p.tables e below (T224.setTop (mkF m 214 #[.val (.int p1), .val (.int p2), .val (.int p3), .val (.int p4), .val (.int p5), .val (.int n), .val (.int u), .val (.int v), .val (.int w), .val (.int z), .val (.ref bd), .val (.ref bc), .unset, .unset, .unset, .unset, .unset, .unset, .unset] [(.ref bd), (.ref bp), (.ref bp)])) _
      refine XS.aload X224.here hx rfl (hb hby at_214) rfl rfl ?_
      show Steps p.tables e below (T224.setTop (mkF m 216 #[.val (.int p1), .val (.int p2), .val (.int p3), .val (.int p4), .val (.int p5), .val (.int n), .val (.int u), .val (.int v), .val (.int w), .val (.int z), .val (.ref bd), .val (.ref bc), .unset, .unset, .unset, .unset, .unset, .unset, .unset] [(.ref bc), (.ref bd), (.ref bp), (.ref bp)])) _
      refine st229.trans ?_
      show Steps p.tables e below (T229.setTop (mkF m 219 #[.val (.int p1), .val (.int p2), .val (.int p3), .val (.int p4), .val (.int p5), .val (.int n), .val (.int u), .val (.int v), .val (.int w), .val (.int z), .val (.ref bd), .val (.ref bc), .unset, .unset, .unset, .unset, .unset, .unset, .unset] [(.ref bp)])) _
      refine XS.astore X229.here hx rfl (hb hby at_219) rfl rfl (l' := #[.val (.int p1), .val (.int p2), .val (.int p3), .val (.int p4), .val (.int p5), .val (.int n), .val (.int u), .val (.int v), .val (.int w), .val (.int z), .val (.ref bd), .val (.ref bc), .val (.ref bp), .unset, .unset, .unset, .unset, .unset, .unset]) rfl ?_
      show Steps p.tables e below (T229.setTop (mkF m 221 #[.val (.int p1), .val (.int p2), .val (.int p3), .val (.int p4), .val (.int p5), .val (.int n), .val (.int u), .val (.int v), .val (.int w), .val (.int z), .val (.ref bd), .val (.ref bc), .val (.ref bp), .unset, .unset, .unset, .unset, .unset, .unset] [])) _
      refine XS.lconst X229.here hx rfl (hb hby at_221) ?_
      show Steps p.tables e below (T229.setTop (mkF m 222 #[.val (.int p1), .val (.int p2), .val (.int p3), .val (.int p4), .val (.int p5), .val (.int n), .val (.int u), .val (.int v), .val (.int w), .val (.int z), .val (.ref bd), .val (.ref bc), .val (.ref bp), .unset, .unset, .unset, .unset, .unset, .unset] [(.long (0 : Int64))])) _
      refine XS.lstore X229.here hx rfl (hb hby at_222) rfl (l' := #[.val (.int p1), .val (.int p2), .val (.int p3), .val (.int p4), .val (.int p5), .val (.int n), .val (.int u), .val (.int v), .val (.int w), .val (.int z), .val (.ref bd), .val (.ref bc), .val (.ref bp), .val (.long (0 : Int64)), .second, .unset, .unset, .unset, .unset]) rfl ?_
      show Steps p.tables e below (T229.setTop (mkF m 224 #[.val (.int p1), .val (.int p2), .val (.int p3), .val (.int p4), .val (.int p5), .val (.int n), .val (.int u), .val (.int v), .val (.int w), .val (.int z), .val (.ref bd), .val (.ref bc), .val (.ref bp), .val (.long (0 : Int64)), .second, .unset, .unset, .unset, .unset] [])) _
      refine XS.iload X229.here hx rfl (hb hby at_224) rfl ?_
      show Steps p.tables e below (T229.setTop (mkF m 226 #[.val (.int p1), .val (.int p2), .val (.int p3), .val (.int p4), .val (.int p5), .val (.int n), .val (.int u), .val (.int v), .val (.int w), .val (.int z), .val (.ref bd), .val (.ref bc), .val (.ref bp), .val (.long (0 : Int64)), .second, .unset, .unset, .unset, .unset] [(.int n)])) _
      refine XS.iconst X229.here hx rfl (hb hby at_226) ?_
      show Steps p.tables e below (T229.setTop (mkF m 227 #[.val (.int p1), .val (.int p2), .val (.int p3), .val (.int p4), .val (.int p5), .val (.int n), .val (.int u), .val (.int v), .val (.int w), .val (.int z), .val (.ref bd), .val (.ref bc), .val (.ref bp), .val (.long (0 : Int64)), .second, .unset, .unset, .unset, .unset] [(.int (1 : Int32)), (.int n)])) _
      refine XS.icmpNo X229.here hx rfl (hb hby at_227) rfl (flt (by rw [q]; decide)).1 ?_
      show Steps p.tables e below (T229.setTop (mkF m 230 #[.val (.int p1), .val (.int p2), .val (.int p3), .val (.int p4), .val (.int p5), .val (.int n), .val (.int u), .val (.int v), .val (.int w), .val (.int z), .val (.ref bd), .val (.ref bc), .val (.ref bp), .val (.long (0 : Int64)), .second, .unset, .unset, .unset, .unset] [])) _
      refine XS.lload X229.here hx rfl (hb hby at_230) rfl ?_
      show Steps p.tables e below (T229.setTop (mkF m 232 #[.val (.int p1), .val (.int p2), .val (.int p3), .val (.int p4), .val (.int p5), .val (.int n), .val (.int u), .val (.int v), .val (.int w), .val (.int z), .val (.ref bd), .val (.ref bc), .val (.ref bp), .val (.long (0 : Int64)), .second, .unset, .unset, .unset, .unset] [(.long (0 : Int64))])) _
      refine XS.iload X229.here hx rfl (hb hby at_232) rfl ?_
      show Steps p.tables e below (T229.setTop (mkF m 234 #[.val (.int p1), .val (.int p2), .val (.int p3), .val (.int p4), .val (.int p5), .val (.int n), .val (.int u), .val (.int v), .val (.int w), .val (.int z), .val (.ref bd), .val (.ref bc), .val (.ref bp), .val (.long (0 : Int64)), .second, .unset, .unset, .unset, .unset] [(.int u), (.long (0 : Int64))])) _
      refine XS.i2l X229.here hx rfl (hb hby at_234) rfl ?_
      show Steps p.tables e below (T229.setTop (mkF m 235 #[.val (.int p1), .val (.int p2), .val (.int p3), .val (.int p4), .val (.int p5), .val (.int n), .val (.int u), .val (.int v), .val (.int w), .val (.int z), .val (.ref bd), .val (.ref bc), .val (.ref bp), .val (.long (0 : Int64)), .second, .unset, .unset, .unset, .unset] [(.long (u.toInt64)), (.long (0 : Int64))])) _
      refine XS.ladd X229.here hx rfl (hb hby at_235) rfl ?_
      show Steps p.tables e below (T229.setTop (mkF m 236 #[.val (.int p1), .val (.int p2), .val (.int p3), .val (.int p4), .val (.int p5), .val (.int n), .val (.int u), .val (.int v), .val (.int w), .val (.int z), .val (.ref bd), .val (.ref bc), .val (.ref bp), .val (.long (0 : Int64)), .second, .unset, .unset, .unset, .unset] [(.long ((0 : Int64) + (u.toInt64)))])) _
      refine XS.lstore X229.here hx rfl (hb hby at_236) rfl (l' := #[.val (.int p1), .val (.int p2), .val (.int p3), .val (.int p4), .val (.int p5), .val (.int n), .val (.int u), .val (.int v), .val (.int w), .val (.int z), .val (.ref bd), .val (.ref bc), .val (.ref bp), .val (.long ((0 : Int64) + (u.toInt64))), .second, .unset, .unset, .unset, .unset]) rfl ?_
      show Steps p.tables e below (T229.setTop (mkF m 238 #[.val (.int p1), .val (.int p2), .val (.int p3), .val (.int p4), .val (.int p5), .val (.int n), .val (.int u), .val (.int v), .val (.int w), .val (.int z), .val (.ref bd), .val (.ref bc), .val (.ref bp), .val (.long ((0 : Int64) + (u.toInt64))), .second, .unset, .unset, .unset, .unset] [])) _
      refine XS.iload X229.here hx rfl (hb hby at_238) rfl ?_
      show Steps p.tables e below (T229.setTop (mkF m 240 #[.val (.int p1), .val (.int p2), .val (.int p3), .val (.int p4), .val (.int p5), .val (.int n), .val (.int u), .val (.int v), .val (.int w), .val (.int z), .val (.ref bd), .val (.ref bc), .val (.ref bp), .val (.long ((0 : Int64) + (u.toInt64))), .second, .unset, .unset, .unset, .unset] [(.int n)])) _
      refine XS.iconst X229.here hx rfl (hb hby at_240) ?_
      show Steps p.tables e below (T229.setTop (mkF m 241 #[.val (.int p1), .val (.int p2), .val (.int p3), .val (.int p4), .val (.int p5), .val (.int n), .val (.int u), .val (.int v), .val (.int w), .val (.int z), .val (.ref bd), .val (.ref bc), .val (.ref bp), .val (.long ((0 : Int64) + (u.toInt64))), .second, .unset, .unset, .unset, .unset] [(.int (2 : Int32)), (.int n)])) _
      refine XS.icmpNo X229.here hx rfl (hb hby at_241) rfl (flt (by rw [q]; decide)).1 ?_
      show Steps p.tables e below (T229.setTop (mkF m 244 #[.val (.int p1), .val (.int p2), .val (.int p3), .val (.int p4), .val (.int p5), .val (.int n), .val (.int u), .val (.int v), .val (.int w), .val (.int z), .val (.ref bd), .val (.ref bc), .val (.ref bp), .val (.long ((0 : Int64) + (u.toInt64))), .second, .unset, .unset, .unset, .unset] [])) _
      refine XS.lload X229.here hx rfl (hb hby at_244) rfl ?_
      show Steps p.tables e below (T229.setTop (mkF m 246 #[.val (.int p1), .val (.int p2), .val (.int p3), .val (.int p4), .val (.int p5), .val (.int n), .val (.int u), .val (.int v), .val (.int w), .val (.int z), .val (.ref bd), .val (.ref bc), .val (.ref bp), .val (.long ((0 : Int64) + (u.toInt64))), .second, .unset, .unset, .unset, .unset] [(.long ((0 : Int64) + (u.toInt64)))])) _
      refine XS.iload X229.here hx rfl (hb hby at_246) rfl ?_
      show Steps p.tables e below (T229.setTop (mkF m 248 #[.val (.int p1), .val (.int p2), .val (.int p3), .val (.int p4), .val (.int p5), .val (.int n), .val (.int u), .val (.int v), .val (.int w), .val (.int z), .val (.ref bd), .val (.ref bc), .val (.ref bp), .val (.long ((0 : Int64) + (u.toInt64))), .second, .unset, .unset, .unset, .unset] [(.int v), (.long ((0 : Int64) + (u.toInt64)))])) _
      refine XS.i2l X229.here hx rfl (hb hby at_248) rfl ?_
      show Steps p.tables e below (T229.setTop (mkF m 249 #[.val (.int p1), .val (.int p2), .val (.int p3), .val (.int p4), .val (.int p5), .val (.int n), .val (.int u), .val (.int v), .val (.int w), .val (.int z), .val (.ref bd), .val (.ref bc), .val (.ref bp), .val (.long ((0 : Int64) + (u.toInt64))), .second, .unset, .unset, .unset, .unset] [(.long (v.toInt64)), (.long ((0 : Int64) + (u.toInt64)))])) _
      refine XS.ladd X229.here hx rfl (hb hby at_249) rfl ?_
      show Steps p.tables e below (T229.setTop (mkF m 250 #[.val (.int p1), .val (.int p2), .val (.int p3), .val (.int p4), .val (.int p5), .val (.int n), .val (.int u), .val (.int v), .val (.int w), .val (.int z), .val (.ref bd), .val (.ref bc), .val (.ref bp), .val (.long ((0 : Int64) + (u.toInt64))), .second, .unset, .unset, .unset, .unset] [(.long (((0 : Int64) + (u.toInt64)) + (v.toInt64)))])) _
      refine XS.lstore X229.here hx rfl (hb hby at_250) rfl (l' := #[.val (.int p1), .val (.int p2), .val (.int p3), .val (.int p4), .val (.int p5), .val (.int n), .val (.int u), .val (.int v), .val (.int w), .val (.int z), .val (.ref bd), .val (.ref bc), .val (.ref bp), .val (.long (((0 : Int64) + (u.toInt64)) + (v.toInt64))), .second, .unset, .unset, .unset, .unset]) rfl ?_
      show Steps p.tables e below (T229.setTop (mkF m 252 #[.val (.int p1), .val (.int p2), .val (.int p3), .val (.int p4), .val (.int p5), .val (.int n), .val (.int u), .val (.int v), .val (.int w), .val (.int z), .val (.ref bd), .val (.ref bc), .val (.ref bp), .val (.long (((0 : Int64) + (u.toInt64)) + (v.toInt64))), .second, .unset, .unset, .unset, .unset] [])) _
      refine XS.iload X229.here hx rfl (hb hby at_252) rfl ?_
      show Steps p.tables e below (T229.setTop (mkF m 254 #[.val (.int p1), .val (.int p2), .val (.int p3), .val (.int p4), .val (.int p5), .val (.int n), .val (.int u), .val (.int v), .val (.int w), .val (.int z), .val (.ref bd), .val (.ref bc), .val (.ref bp), .val (.long (((0 : Int64) + (u.toInt64)) + (v.toInt64))), .second, .unset, .unset, .unset, .unset] [(.int n)])) _
      refine XS.iconst X229.here hx rfl (hb hby at_254) ?_
      show Steps p.tables e below (T229.setTop (mkF m 255 #[.val (.int p1), .val (.int p2), .val (.int p3), .val (.int p4), .val (.int p5), .val (.int n), .val (.int u), .val (.int v), .val (.int w), .val (.int z), .val (.ref bd), .val (.ref bc), .val (.ref bp), .val (.long (((0 : Int64) + (u.toInt64)) + (v.toInt64))), .second, .unset, .unset, .unset, .unset] [(.int (3 : Int32)), (.int n)])) _
      refine XS.icmpNo X229.here hx rfl (hb hby at_255) rfl (flt (by rw [q]; decide)).1 ?_
      show Steps p.tables e below (T229.setTop (mkF m 258 #[.val (.int p1), .val (.int p2), .val (.int p3), .val (.int p4), .val (.int p5), .val (.int n), .val (.int u), .val (.int v), .val (.int w), .val (.int z), .val (.ref bd), .val (.ref bc), .val (.ref bp), .val (.long (((0 : Int64) + (u.toInt64)) + (v.toInt64))), .second, .unset, .unset, .unset, .unset] [])) _
      refine XS.lload X229.here hx rfl (hb hby at_258) rfl ?_
      show Steps p.tables e below (T229.setTop (mkF m 260 #[.val (.int p1), .val (.int p2), .val (.int p3), .val (.int p4), .val (.int p5), .val (.int n), .val (.int u), .val (.int v), .val (.int w), .val (.int z), .val (.ref bd), .val (.ref bc), .val (.ref bp), .val (.long (((0 : Int64) + (u.toInt64)) + (v.toInt64))), .second, .unset, .unset, .unset, .unset] [(.long (((0 : Int64) + (u.toInt64)) + (v.toInt64)))])) _
      refine XS.iload X229.here hx rfl (hb hby at_260) rfl ?_
      show Steps p.tables e below (T229.setTop (mkF m 262 #[.val (.int p1), .val (.int p2), .val (.int p3), .val (.int p4), .val (.int p5), .val (.int n), .val (.int u), .val (.int v), .val (.int w), .val (.int z), .val (.ref bd), .val (.ref bc), .val (.ref bp), .val (.long (((0 : Int64) + (u.toInt64)) + (v.toInt64))), .second, .unset, .unset, .unset, .unset] [(.int w), (.long (((0 : Int64) + (u.toInt64)) + (v.toInt64)))])) _
      refine XS.i2l X229.here hx rfl (hb hby at_262) rfl ?_
      show Steps p.tables e below (T229.setTop (mkF m 263 #[.val (.int p1), .val (.int p2), .val (.int p3), .val (.int p4), .val (.int p5), .val (.int n), .val (.int u), .val (.int v), .val (.int w), .val (.int z), .val (.ref bd), .val (.ref bc), .val (.ref bp), .val (.long (((0 : Int64) + (u.toInt64)) + (v.toInt64))), .second, .unset, .unset, .unset, .unset] [(.long (w.toInt64)), (.long (((0 : Int64) + (u.toInt64)) + (v.toInt64)))])) _
      refine XS.ladd X229.here hx rfl (hb hby at_263) rfl ?_
      show Steps p.tables e below (T229.setTop (mkF m 264 #[.val (.int p1), .val (.int p2), .val (.int p3), .val (.int p4), .val (.int p5), .val (.int n), .val (.int u), .val (.int v), .val (.int w), .val (.int z), .val (.ref bd), .val (.ref bc), .val (.ref bp), .val (.long (((0 : Int64) + (u.toInt64)) + (v.toInt64))), .second, .unset, .unset, .unset, .unset] [(.long ((((0 : Int64) + (u.toInt64)) + (v.toInt64)) + (w.toInt64)))])) _
      refine XS.lstore X229.here hx rfl (hb hby at_264) rfl (l' := #[.val (.int p1), .val (.int p2), .val (.int p3), .val (.int p4), .val (.int p5), .val (.int n), .val (.int u), .val (.int v), .val (.int w), .val (.int z), .val (.ref bd), .val (.ref bc), .val (.ref bp), .val (.long ((((0 : Int64) + (u.toInt64)) + (v.toInt64)) + (w.toInt64))), .second, .unset, .unset, .unset, .unset]) rfl ?_
      show Steps p.tables e below (T229.setTop (mkF m 266 #[.val (.int p1), .val (.int p2), .val (.int p3), .val (.int p4), .val (.int p5), .val (.int n), .val (.int u), .val (.int v), .val (.int w), .val (.int z), .val (.ref bd), .val (.ref bc), .val (.ref bp), .val (.long ((((0 : Int64) + (u.toInt64)) + (v.toInt64)) + (w.toInt64))), .second, .unset, .unset, .unset, .unset] [])) _
      refine XS.iload X229.here hx rfl (hb hby at_266) rfl ?_
      show Steps p.tables e below (T229.setTop (mkF m 268 #[.val (.int p1), .val (.int p2), .val (.int p3), .val (.int p4), .val (.int p5), .val (.int n), .val (.int u), .val (.int v), .val (.int w), .val (.int z), .val (.ref bd), .val (.ref bc), .val (.ref bp), .val (.long ((((0 : Int64) + (u.toInt64)) + (v.toInt64)) + (w.toInt64))), .second, .unset, .unset, .unset, .unset] [(.int n)])) _
      refine XS.iconst X229.here hx rfl (hb hby at_268) ?_
      show Steps p.tables e below (T229.setTop (mkF m 269 #[.val (.int p1), .val (.int p2), .val (.int p3), .val (.int p4), .val (.int p5), .val (.int n), .val (.int u), .val (.int v), .val (.int w), .val (.int z), .val (.ref bd), .val (.ref bc), .val (.ref bp), .val (.long ((((0 : Int64) + (u.toInt64)) + (v.toInt64)) + (w.toInt64))), .second, .unset, .unset, .unset, .unset] [(.int (4 : Int32)), (.int n)])) _
      refine XS.icmpYes X229.here hx rfl (pc0 := 269) (pc' := 280) rfl (hb hby at_269) rfl (tlt (by rw [q]; decide)).1 (by decide) (by decide) ?_
      show Steps p.tables e below (T229.setTop (mkF m 280 #[.val (.int p1), .val (.int p2), .val (.int p3), .val (.int p4), .val (.int p5), .val (.int n), .val (.int u), .val (.int v), .val (.int w), .val (.int z), .val (.ref bd), .val (.ref bc), .val (.ref bp), .val (.long ((((0 : Int64) + (u.toInt64)) + (v.toInt64)) + (w.toInt64))), .second, .unset, .unset, .unset, .unset] [])) _
      refine XS.aload X229.here hx rfl (hb hby at_280) rfl rfl ?_
      show Steps p.tables e below (T229.setTop (mkF m 282 #[.val (.int p1), .val (.int p2), .val (.int p3), .val (.int p4), .val (.int p5), .val (.int n), .val (.int u), .val (.int v), .val (.int w), .val (.int z), .val (.ref bd), .val (.ref bc), .val (.ref bp), .val (.long ((((0 : Int64) + (u.toInt64)) + (v.toInt64)) + (w.toInt64))), .second, .unset, .unset, .unset, .unset] [(.ref bp)])) _
      refine st236.trans ?_
      show Steps p.tables e below (T236.setTop (mkF m 285 #[.val (.int p1), .val (.int p2), .val (.int p3), .val (.int p4), .val (.int p5), .val (.int n), .val (.int u), .val (.int v), .val (.int w), .val (.int z), .val (.ref bd), .val (.ref bc), .val (.ref bp), .val (.long ((((0 : Int64) + (u.toInt64)) + (v.toInt64)) + (w.toInt64))), .second, .unset, .unset, .unset, .unset] [(.long ((((0 : Int64) + (u.toInt64)) + (v.toInt64)) + (w.toInt64)))])) _
      refine XS.lstore X236.here hx rfl (hb hby at_285) rfl (l' := #[.val (.int p1), .val (.int p2), .val (.int p3), .val (.int p4), .val (.int p5), .val (.int n), .val (.int u), .val (.int v), .val (.int w), .val (.int z), .val (.ref bd), .val (.ref bc), .val (.ref bp), .val (.long ((((0 : Int64) + (u.toInt64)) + (v.toInt64)) + (w.toInt64))), .second, .val (.long ((((0 : Int64) + (u.toInt64)) + (v.toInt64)) + (w.toInt64))), .second, .unset, .unset]) rfl ?_
      show Steps p.tables e below (T236.setTop (mkF m 287 #[.val (.int p1), .val (.int p2), .val (.int p3), .val (.int p4), .val (.int p5), .val (.int n), .val (.int u), .val (.int v), .val (.int w), .val (.int z), .val (.ref bd), .val (.ref bc), .val (.ref bp), .val (.long ((((0 : Int64) + (u.toInt64)) + (v.toInt64)) + (w.toInt64))), .second, .val (.long ((((0 : Int64) + (u.toInt64)) + (v.toInt64)) + (w.toInt64))), .second, .unset, .unset] [])) _
      refine XS.aload X236.here hx rfl (hb hby at_287) rfl rfl ?_
      show Steps p.tables e below (T236.setTop (mkF m 289 #[.val (.int p1), .val (.int p2), .val (.int p3), .val (.int p4), .val (.int p5), .val (.int n), .val (.int u), .val (.int v), .val (.int w), .val (.int z), .val (.ref bd), .val (.ref bc), .val (.ref bp), .val (.long ((((0 : Int64) + (u.toInt64)) + (v.toInt64)) + (w.toInt64))), .second, .val (.long ((((0 : Int64) + (u.toInt64)) + (v.toInt64)) + (w.toInt64))), .second, .unset, .unset] [(.ref bp)])) _
      refine st237.trans ?_
      show Steps p.tables e below (T237.setTop (mkF m 292 #[.val (.int p1), .val (.int p2), .val (.int p3), .val (.int p4), .val (.int p5), .val (.int n), .val (.int u), .val (.int v), .val (.int w), .val (.int z), .val (.ref bd), .val (.ref bc), .val (.ref bp), .val (.long ((((0 : Int64) + (u.toInt64)) + (v.toInt64)) + (w.toInt64))), .second, .val (.long ((((0 : Int64) + (u.toInt64)) + (v.toInt64)) + (w.toInt64))), .second, .unset, .unset] [(.long ((((0 : Int64) + (u.toInt64)) + (v.toInt64)) + (w.toInt64)))])) _
      refine XS.lstore X237.here hx rfl (hb hby at_292) rfl (l' := #[.val (.int p1), .val (.int p2), .val (.int p3), .val (.int p4), .val (.int p5), .val (.int n), .val (.int u), .val (.int v), .val (.int w), .val (.int z), .val (.ref bd), .val (.ref bc), .val (.ref bp), .val (.long ((((0 : Int64) + (u.toInt64)) + (v.toInt64)) + (w.toInt64))), .second, .val (.long ((((0 : Int64) + (u.toInt64)) + (v.toInt64)) + (w.toInt64))), .second, .val (.long ((((0 : Int64) + (u.toInt64)) + (v.toInt64)) + (w.toInt64))), .second]) rfl ?_
      show Steps p.tables e below (T237.setTop (mkF m 294 #[.val (.int p1), .val (.int p2), .val (.int p3), .val (.int p4), .val (.int p5), .val (.int n), .val (.int u), .val (.int v), .val (.int w), .val (.int z), .val (.ref bd), .val (.ref bc), .val (.ref bp), .val (.long ((((0 : Int64) + (u.toInt64)) + (v.toInt64)) + (w.toInt64))), .second, .val (.long ((((0 : Int64) + (u.toInt64)) + (v.toInt64)) + (w.toInt64))), .second, .val (.long ((((0 : Int64) + (u.toInt64)) + (v.toInt64)) + (w.toInt64))), .second] [])) _
      refine XS.lload X237.here hx rfl (hb hby at_294) rfl ?_
      show Steps p.tables e below (T237.setTop (mkF m 296 #[.val (.int p1), .val (.int p2), .val (.int p3), .val (.int p4), .val (.int p5), .val (.int n), .val (.int u), .val (.int v), .val (.int w), .val (.int z), .val (.ref bd), .val (.ref bc), .val (.ref bp), .val (.long ((((0 : Int64) + (u.toInt64)) + (v.toInt64)) + (w.toInt64))), .second, .val (.long ((((0 : Int64) + (u.toInt64)) + (v.toInt64)) + (w.toInt64))), .second, .val (.long ((((0 : Int64) + (u.toInt64)) + (v.toInt64)) + (w.toInt64))), .second] [(.long ((((0 : Int64) + (u.toInt64)) + (v.toInt64)) + (w.toInt64)))])) _
      refine XS.lload X237.here hx rfl (hb hby at_296) rfl ?_
      show Steps p.tables e below (T237.setTop (mkF m 298 #[.val (.int p1), .val (.int p2), .val (.int p3), .val (.int p4), .val (.int p5), .val (.int n), .val (.int u), .val (.int v), .val (.int w), .val (.int z), .val (.ref bd), .val (.ref bc), .val (.ref bp), .val (.long ((((0 : Int64) + (u.toInt64)) + (v.toInt64)) + (w.toInt64))), .second, .val (.long ((((0 : Int64) + (u.toInt64)) + (v.toInt64)) + (w.toInt64))), .second, .val (.long ((((0 : Int64) + (u.toInt64)) + (v.toInt64)) + (w.toInt64))), .second] [(.long ((((0 : Int64) + (u.toInt64)) + (v.toInt64)) + (w.toInt64))), (.long ((((0 : Int64) + (u.toInt64)) + (v.toInt64)) + (w.toInt64)))])) _
      refine XS.lcmp X237.here hx rfl (hb hby at_298) rfl ?_
      show Steps p.tables e below (T237.setTop (mkF m 299 #[.val (.int p1), .val (.int p2), .val (.int p3), .val (.int p4), .val (.int p5), .val (.int n), .val (.int u), .val (.int v), .val (.int w), .val (.int z), .val (.ref bd), .val (.ref bc), .val (.ref bp), .val (.long ((((0 : Int64) + (u.toInt64)) + (v.toInt64)) + (w.toInt64))), .second, .val (.long ((((0 : Int64) + (u.toInt64)) + (v.toInt64)) + (w.toInt64))), .second, .val (.long ((((0 : Int64) + (u.toInt64)) + (v.toInt64)) + (w.toInt64))), .second] [(.int (lcmpW ((((0 : Int64) + (u.toInt64)) + (v.toInt64)) + (w.toInt64)) ((((0 : Int64) + (u.toInt64)) + (v.toInt64)) + (w.toInt64))))])) _
      refine XS.ifNo X237.here hx rfl (hb hby at_299) rfl ((if0 _ _).trans (teq ((lw_eq _ _).mpr rfl)).2) ?_
      show Steps p.tables e below (T237.setTop (mkF m 302 #[.val (.int p1), .val (.int p2), .val (.int p3), .val (.int p4), .val (.int p5), .val (.int n), .val (.int u), .val (.int v), .val (.int w), .val (.int z), .val (.ref bd), .val (.ref bc), .val (.ref bp), .val (.long ((((0 : Int64) + (u.toInt64)) + (v.toInt64)) + (w.toInt64))), .second, .val (.long ((((0 : Int64) + (u.toInt64)) + (v.toInt64)) + (w.toInt64))), .second, .val (.long ((((0 : Int64) + (u.toInt64)) + (v.toInt64)) + (w.toInt64))), .second] [])) _
      refine XS.lload X237.here hx rfl (hb hby at_302) rfl ?_
      show Steps p.tables e below (T237.setTop (mkF m 304 #[.val (.int p1), .val (.int p2), .val (.int p3), .val (.int p4), .val (.int p5), .val (.int n), .val (.int u), .val (.int v), .val (.int w), .val (.int z), .val (.ref bd), .val (.ref bc), .val (.ref bp), .val (.long ((((0 : Int64) + (u.toInt64)) + (v.toInt64)) + (w.toInt64))), .second, .val (.long ((((0 : Int64) + (u.toInt64)) + (v.toInt64)) + (w.toInt64))), .second, .val (.long ((((0 : Int64) + (u.toInt64)) + (v.toInt64)) + (w.toInt64))), .second] [(.long ((((0 : Int64) + (u.toInt64)) + (v.toInt64)) + (w.toInt64)))])) _
      refine XS.lload X237.here hx rfl (hb hby at_304) rfl ?_
      show Steps p.tables e below (T237.setTop (mkF m 306 #[.val (.int p1), .val (.int p2), .val (.int p3), .val (.int p4), .val (.int p5), .val (.int n), .val (.int u), .val (.int v), .val (.int w), .val (.int z), .val (.ref bd), .val (.ref bc), .val (.ref bp), .val (.long ((((0 : Int64) + (u.toInt64)) + (v.toInt64)) + (w.toInt64))), .second, .val (.long ((((0 : Int64) + (u.toInt64)) + (v.toInt64)) + (w.toInt64))), .second, .val (.long ((((0 : Int64) + (u.toInt64)) + (v.toInt64)) + (w.toInt64))), .second] [(.long ((((0 : Int64) + (u.toInt64)) + (v.toInt64)) + (w.toInt64))), (.long ((((0 : Int64) + (u.toInt64)) + (v.toInt64)) + (w.toInt64)))])) _
      refine XS.lcmp X237.here hx rfl (hb hby at_306) rfl ?_
      show Steps p.tables e below (T237.setTop (mkF m 307 #[.val (.int p1), .val (.int p2), .val (.int p3), .val (.int p4), .val (.int p5), .val (.int n), .val (.int u), .val (.int v), .val (.int w), .val (.int z), .val (.ref bd), .val (.ref bc), .val (.ref bp), .val (.long ((((0 : Int64) + (u.toInt64)) + (v.toInt64)) + (w.toInt64))), .second, .val (.long ((((0 : Int64) + (u.toInt64)) + (v.toInt64)) + (w.toInt64))), .second, .val (.long ((((0 : Int64) + (u.toInt64)) + (v.toInt64)) + (w.toInt64))), .second] [(.int (lcmpW ((((0 : Int64) + (u.toInt64)) + (v.toInt64)) + (w.toInt64)) ((((0 : Int64) + (u.toInt64)) + (v.toInt64)) + (w.toInt64))))])) _
      refine XS.ifNo X237.here hx rfl (hb hby at_307) rfl ((if0 _ _).trans (teq ((lw_eq _ _).mpr rfl)).2) ?_
      show Steps p.tables e below (T237.setTop (mkF m 310 #[.val (.int p1), .val (.int p2), .val (.int p3), .val (.int p4), .val (.int p5), .val (.int n), .val (.int u), .val (.int v), .val (.int w), .val (.int z), .val (.ref bd), .val (.ref bc), .val (.ref bp), .val (.long ((((0 : Int64) + (u.toInt64)) + (v.toInt64)) + (w.toInt64))), .second, .val (.long ((((0 : Int64) + (u.toInt64)) + (v.toInt64)) + (w.toInt64))), .second, .val (.long ((((0 : Int64) + (u.toInt64)) + (v.toInt64)) + (w.toInt64))), .second] [])) _
      refine XS.iconst X237.here hx rfl (hb hby at_310) ?_
      show Steps p.tables e below (T237.setTop (mkF m 311 #[.val (.int p1), .val (.int p2), .val (.int p3), .val (.int p4), .val (.int p5), .val (.int n), .val (.int u), .val (.int v), .val (.int w), .val (.int z), .val (.ref bd), .val (.ref bc), .val (.ref bp), .val (.long ((((0 : Int64) + (u.toInt64)) + (v.toInt64)) + (w.toInt64))), .second, .val (.long ((((0 : Int64) + (u.toInt64)) + (v.toInt64)) + (w.toInt64))), .second, .val (.long ((((0 : Int64) + (u.toInt64)) + (v.toInt64)) + (w.toInt64))), .second] [(.int (1 : Int32))])) _
      refine XS.goto X237.here hx rfl (pc0 := 311) (pc' := 315) rfl (hb hby at_311) (by decide) (by decide) ?_
      exact k_)
    obtain ⟨fs, hr, hrun, hended, hW, hsame⟩ := X237.leave (v := some (.int (1 : Int32))) (fun h => by rw [Bd.returns] at h; cases h)
    refine ⟨_, _, pre238 _ ?_, hrun, hended, _, _, rfl, ?_, ⟨_, rfl⟩, hW, hsame.mono (by decide) (by decide)⟩
    · show Steps p.tables e below (T237.setTop (mkF m 315 #[.val (.int p1), .val (.int p2), .val (.int p3), .val (.int p4), .val (.int p5), .val (.int n), .val (.int u), .val (.int v), .val (.int w), .val (.int z), .val (.ref bd), .val (.ref bc), .val (.ref bp), .val (.long ((((0 : Int64) + (u.toInt64)) + (v.toInt64)) + (w.toInt64))), .second, .val (.long ((((0 : Int64) + (u.toInt64)) + (v.toInt64)) + (w.toInt64))), .second, .val (.long ((((0 : Int64) + (u.toInt64)) + (v.toInt64)) + (w.toInt64))), .second] [(.int (1 : Int32))])) _
      exact retN X237 hx (t := .boolean) Bd.returns (by simp) (hb hby at_315) hr
    · show Qrm0 Z p1 p2 p3 p4 p5 h0 n0 _ T237.heap _
      rw [e237]
      exact ⟨rfl, N237⟩
  · skip
    obtain ⟨T239, h239, k_bd, X239, e239, Ext_bd, A_bd, st239⟩ := newP X108 hx hZ (hw _ (List.mem_of_getElem? (i := 5) rfl)) e108 (g := (mkF m 163 #[.val (.int p1), .val (.int p2), .val (.int p3), .val (.int p4), .val (.int p5), .val (.int n), .val (.int u), .val (.int v), .val (.int w), .val (.int z), .unset, .unset, .unset, .unset, .unset, .unset, .unset, .unset, .unset] [(.int (4 : Int32))])) rfl (hb hby at_163) rfl (by decide) (cap := 4) (by decide) (by decide) (by decide) (by decide)
    obtain ⟨bd, eq_bd⟩ : ∃ z, z = h0.size := ⟨_, rfl⟩
    rw [← eq_bd] at A_bd st239
    have g_bd : n0 ≤ bd := Nat.le_trans Z0 (Nat.le_of_eq eq_bd.symm)
    have Z240 : n0 ≤ h239.size := Nat.le_trans Z0 (Ext_bd.1)
    have V_bd : Arv Z h239 bd k_bd .int (4 : Int32) [(.int (0 : Int32)), (.int (0 : Int32)), (.int (0 : Int32)), (.int (0 : Int32))] (.int (0 : Int32)) := (Arv.new A_bd (by decide)).pad (pad_rep [] (.int (0 : Int32)) 4)
    obtain ⟨cl241, Ar241, qk241, Sz241, Ng241, Hs241, Gs241⟩ := V_bd
    have hin241 : ¬ ((0 : Int32) < 0 ∨ cl241.slots.size ≤ ((0 : Int32)).toNatClampNeg) := inb_of Sz241 ⟨by decide, by decide⟩
    obtain ⟨T242, h242, X242, e242, W242, st242⟩ := stI X239 hx hZ e239 Ar241 (j := (0 : Int32)) hin241 (g := (mkF m 168 #[.val (.int p1), .val (.int p2), .val (.int p3), .val (.int p4), .val (.int p5), .val (.int n), .val (.int u), .val (.int v), .val (.int w), .val (.int z), .unset, .unset, .unset, .unset, .unset, .unset, .unset, .unset, .unset] [(.int (0 : Int32)), (.int (0 : Int32)), (.ref bd), (.ref bd)])) rfl rfl (hb hby at_168)
    have V_bd_242 : Arv Z h242 bd k_bd .int (4 : Int32) [(.int (0 : Int32)), (.int (0 : Int32)), (.int (0 : Int32)), (.int (0 : Int32))] (.int (0 : Int32)) := Arv.set Ar241 qk241 Sz241 Ng241 Hs241 Gs241 rfl W242 0 rfl (Nat.le_of_ble_eq_true rfl)
    have N242 := Fr.snoc X242 N108 g_bd
    have Z243 : n0 ≤ h242.size := Nat.le_trans Z240 ((Keep.of_wr W242).1)
    obtain ⟨cl244, Ar244, qk244, Sz244, Ng244, Hs244, Gs244⟩ := V_bd_242
    have hin244 : ¬ ((1 : Int32) < 0 ∨ cl244.slots.size ≤ ((1 : Int32)).toNatClampNeg) := inb_of Sz244 ⟨by decide, by decide⟩
    obtain ⟨T245, h245, X245, e245, W245, st245⟩ := stI X242 hx hZ e242 Ar244 (j := (1 : Int32)) hin244 (g := (mkF m 172 #[.val (.int p1), .val (.int p2), .val (.int p3), .val (.int p4), .val (.int p5), .val (.int n), .val (.int u), .val (.int v), .val (.int w), .val (.int z), .unset, .unset, .unset, .unset, .unset, .unset, .unset, .unset, .unset] [(.int (1 : Int32)), (.int (1 : Int32)), (.ref bd), (.ref bd)])) rfl rfl (hb hby at_172)
    have V_bd_245 : Arv Z h245 bd k_bd .int (4 : Int32) [(.int (0 : Int32)), (.int (1 : Int32)), (.int (0 : Int32)), (.int (0 : Int32))] (.int (0 : Int32)) := Arv.set Ar244 qk244 Sz244 Ng244 Hs244 Gs244 rfl W245 1 rfl (Nat.le_of_ble_eq_true rfl)
    have N245 := Fr.snoc X245 N242 g_bd
    have Z246 : n0 ≤ h245.size := Nat.le_trans Z243 ((Keep.of_wr W245).1)
    obtain ⟨cl247, Ar247, qk247, Sz247, Ng247, Hs247, Gs247⟩ := V_bd_245
    have hin247 : ¬ ((2 : Int32) < 0 ∨ cl247.slots.size ≤ ((2 : Int32)).toNatClampNeg) := inb_of Sz247 ⟨by decide, by decide⟩
    obtain ⟨T248, h248, X248, e248, W248, st248⟩ := stI X245 hx hZ e245 Ar247 (j := (2 : Int32)) hin247 (g := (mkF m 176 #[.val (.int p1), .val (.int p2), .val (.int p3), .val (.int p4), .val (.int p5), .val (.int n), .val (.int u), .val (.int v), .val (.int w), .val (.int z), .unset, .unset, .unset, .unset, .unset, .unset, .unset, .unset, .unset] [(.int (2 : Int32)), (.int (2 : Int32)), (.ref bd), (.ref bd)])) rfl rfl (hb hby at_176)
    have V_bd_248 : Arv Z h248 bd k_bd .int (4 : Int32) [(.int (0 : Int32)), (.int (1 : Int32)), (.int (2 : Int32)), (.int (0 : Int32))] (.int (0 : Int32)) := Arv.set Ar247 qk247 Sz247 Ng247 Hs247 Gs247 rfl W248 2 rfl (Nat.le_of_ble_eq_true rfl)
    have N248 := Fr.snoc X248 N245 g_bd
    have Z249 : n0 ≤ h248.size := Nat.le_trans Z246 ((Keep.of_wr W248).1)
    obtain ⟨cl250, Ar250, qk250, Sz250, Ng250, Hs250, Gs250⟩ := V_bd_248
    have hin250 : ¬ ((3 : Int32) < 0 ∨ cl250.slots.size ≤ ((3 : Int32)).toNatClampNeg) := inb_of Sz250 ⟨by decide, by decide⟩
    obtain ⟨T251, h251, X251, e251, W251, st251⟩ := stI X248 hx hZ e248 Ar250 (j := (3 : Int32)) hin250 (g := (mkF m 180 #[.val (.int p1), .val (.int p2), .val (.int p3), .val (.int p4), .val (.int p5), .val (.int n), .val (.int u), .val (.int v), .val (.int w), .val (.int z), .unset, .unset, .unset, .unset, .unset, .unset, .unset, .unset, .unset] [(.int (3 : Int32)), (.int (3 : Int32)), (.ref bd), (.ref bd)])) rfl rfl (hb hby at_180)
    have V_bd_251 : Arv Z h251 bd k_bd .int (4 : Int32) [(.int (0 : Int32)), (.int (1 : Int32)), (.int (2 : Int32)), (.int (3 : Int32))] (.int (0 : Int32)) := Arv.set Ar250 qk250 Sz250 Ng250 Hs250 Gs250 rfl W251 3 rfl (Nat.le_of_ble_eq_true rfl)
    have N251 := Fr.snoc X251 N248 g_bd
    have Z252 : n0 ≤ h251.size := Nat.le_trans Z249 ((Keep.of_wr W251).1)
    obtain ⟨T253, h253, k_bc, X253, e253, Ext_bc, A_bc, st253⟩ := newP X251 hx hZ (hw _ (List.mem_of_getElem? (i := 5) rfl)) e251 (g := (mkF m 184 #[.val (.int p1), .val (.int p2), .val (.int p3), .val (.int p4), .val (.int p5), .val (.int n), .val (.int u), .val (.int v), .val (.int w), .val (.int z), .val (.ref bd), .unset, .unset, .unset, .unset, .unset, .unset, .unset, .unset] [(.int (4 : Int32))])) rfl (hb hby at_184) rfl (by decide) (cap := 4) (by decide) (by decide) (by decide) (by decide)
    obtain ⟨bc, eq_bc⟩ : ∃ z, z = h251.size := ⟨_, rfl⟩
    rw [← eq_bc] at A_bc st253
    have g_bc : n0 ≤ bc := Nat.le_trans Z252 (Nat.le_of_eq eq_bc.symm)
    have ne_bd_bc : bd ≠ bc := Nat.ne_of_lt (Nat.lt_of_lt_of_le V_bd_251.lt (Nat.le_of_eq eq_bc.symm))
    have V_bd_254 := V_bd_251.ext Ext_bc
    have Z255 : n0 ≤ h253.size := Nat.le_trans Z252 (Ext_bc.1)
    have V_bc : Arv Z h253 bc k_bc .int (4 : Int32) [(.int (0 : Int32)), (.int (0 : Int32)), (.int (0 : Int32)), (.int (0 : Int32))] (.int (0 : Int32)) := (Arv.new A_bc (by decide)).pad (pad_rep [] (.int (0 : Int32)) 4)
    obtain ⟨cl256, Ar256, qk256, Sz256, Ng256, Hs256, Gs256⟩ := V_bc
    have hin256 : ¬ ((0 : Int32) < 0 ∨ cl256.slots.size ≤ ((0 : Int32)).toNatClampNeg) := inb_of Sz256 ⟨by decide, by decide⟩
    obtain ⟨T257, h257, X257, e257, W257, st257⟩ := stI X253 hx hZ e253 Ar256 (j := (0 : Int32)) hin256 (g := (mkF m 190 #[.val (.int p1), .val (.int p2), .val (.int p3), .val (.int p4), .val (.int p5), .val (.int n), .val (.int u), .val (.int v), .val (.int w), .val (.int z), .val (.ref bd), .unset, .unset, .unset, .unset, .unset, .unset, .unset, .unset] [(.int u), (.int (0 : Int32)), (.ref bc), (.ref bc)])) rfl rfl (hb hby at_190)
    have V_bd_258 := V_bd_254.other W257 ne_bd_bc
    have V_bc_257 : Arv Z h257 bc k_bc .int (4 : Int32) [(.int u), (.int (0 : Int32)), (.int (0 : Int32)), (.int (0 : Int32))] (.int (0 : Int32)) := Arv.set Ar256 qk256 Sz256 Ng256 Hs256 Gs256 rfl W257 0 rfl (Nat.le_of_ble_eq_true rfl)
    have N257 := Fr.snoc X257 N251 g_bc
    have Z260 : n0 ≤ h257.size := Nat.le_trans Z255 ((Keep.of_wr W257).1)
    obtain ⟨cl261, Ar261, qk261, Sz261, Ng261, Hs261, Gs261⟩ := V_bc_257
    have hin261 : ¬ ((1 : Int32) < 0 ∨ cl261.slots.size ≤ ((1 : Int32)).toNatClampNeg) := inb_of Sz261 ⟨by decide, by decide⟩
    obtain ⟨T262, h262, X262, e262, W262, st262⟩ := stI X257 hx hZ e257 Ar261 (j := (1 : Int32)) hin261 (g := (mkF m 195 #[.val (.int p1), .val (.int p2), .val (.int p3), .val (.int p4), .val (.int p5), .val (.int n), .val (.int u), .val (.int v), .val (.int w), .val (.int z), .val (.ref bd), .unset, .unset, .unset, .unset, .unset, .unset, .unset, .unset] [(.int v), (.int (1 : Int32)), (.ref bc), (.ref bc)])) rfl rfl (hb hby at_195)
    have V_bd_263 := V_bd_258.other W262 ne_bd_bc
    have V_bc_262 : Arv Z h262 bc k_bc .int (4 : Int32) [(.int u), (.int v), (.int (0 : Int32)), (.int (0 : Int32))] (.int (0 : Int32)) := Arv.set Ar261 qk261 Sz261 Ng261 Hs261 Gs261 rfl W262 1 rfl (Nat.le_of_ble_eq_true rfl)
    have N262 := Fr.snoc X262 N257 g_bc
    have Z265 : n0 ≤ h262.size := Nat.le_trans Z260 ((Keep.of_wr W262).1)
    obtain ⟨cl266, Ar266, qk266, Sz266, Ng266, Hs266, Gs266⟩ := V_bc_262
    have hin266 : ¬ ((2 : Int32) < 0 ∨ cl266.slots.size ≤ ((2 : Int32)).toNatClampNeg) := inb_of Sz266 ⟨by decide, by decide⟩
    obtain ⟨T267, h267, X267, e267, W267, st267⟩ := stI X262 hx hZ e262 Ar266 (j := (2 : Int32)) hin266 (g := (mkF m 200 #[.val (.int p1), .val (.int p2), .val (.int p3), .val (.int p4), .val (.int p5), .val (.int n), .val (.int u), .val (.int v), .val (.int w), .val (.int z), .val (.ref bd), .unset, .unset, .unset, .unset, .unset, .unset, .unset, .unset] [(.int w), (.int (2 : Int32)), (.ref bc), (.ref bc)])) rfl rfl (hb hby at_200)
    have V_bd_268 := V_bd_263.other W267 ne_bd_bc
    have V_bc_267 : Arv Z h267 bc k_bc .int (4 : Int32) [(.int u), (.int v), (.int w), (.int (0 : Int32))] (.int (0 : Int32)) := Arv.set Ar266 qk266 Sz266 Ng266 Hs266 Gs266 rfl W267 2 rfl (Nat.le_of_ble_eq_true rfl)
    have N267 := Fr.snoc X267 N262 g_bc
    have Z270 : n0 ≤ h267.size := Nat.le_trans Z265 ((Keep.of_wr W267).1)
    obtain ⟨cl271, Ar271, qk271, Sz271, Ng271, Hs271, Gs271⟩ := V_bc_267
    have hin271 : ¬ ((3 : Int32) < 0 ∨ cl271.slots.size ≤ ((3 : Int32)).toNatClampNeg) := inb_of Sz271 ⟨by decide, by decide⟩
    obtain ⟨T272, h272, X272, e272, W272, st272⟩ := stI X267 hx hZ e267 Ar271 (j := (3 : Int32)) hin271 (g := (mkF m 205 #[.val (.int p1), .val (.int p2), .val (.int p3), .val (.int p4), .val (.int p5), .val (.int n), .val (.int u), .val (.int v), .val (.int w), .val (.int z), .val (.ref bd), .unset, .unset, .unset, .unset, .unset, .unset, .unset, .unset] [(.int z), (.int (3 : Int32)), (.ref bc), (.ref bc)])) rfl rfl (hb hby at_205)
    have V_bd_273 := V_bd_268.other W272 ne_bd_bc
    have V_bc_272 : Arv Z h272 bc k_bc .int (4 : Int32) [(.int u), (.int v), (.int w), (.int z)] (.int (0 : Int32)) := Arv.set Ar271 qk271 Sz271 Ng271 Hs271 Gs271 rfl W272 3 rfl (Nat.le_of_ble_eq_true rfl)
    have N272 := Fr.snoc X272 N267 g_bc
    have Z275 : n0 ≤ h272.size := Nat.le_trans Z270 ((Keep.of_wr W272).1)
    obtain ⟨T276, h276, X276, e276, Ext_bp, E_bp, D_bp, -, st276⟩ := newO X272 hx hZ hown (hw _ (List.mem_of_getElem? (i := 6) rfl)) (hw _ (List.mem_of_getElem? (i := 7) rfl)) (hw _ (List.mem_of_getElem? (i := 8) rfl)) e272 (g := (mkF m 208 #[.val (.int p1), .val (.int p2), .val (.int p3), .val (.int p4), .val (.int p5), .val (.int n), .val (.int u), .val (.int v), .val (.int w), .val (.int z), .val (.ref bd), .val (.ref bc), .unset, .unset, .unset, .unset, .unset, .unset, .unset] [])) rfl (hb hby at_208) (by decide) (by decide)
    obtain ⟨bp, eq_bp⟩ : ∃ z, z = h272.size := ⟨_, rfl⟩
    rw [← eq_bp] at E_bp D_bp st276
    have g_bp : n0 ≤ bp := Nat.le_trans Z275 (Nat.le_of_eq eq_bp.symm)
    have ne_bd_bp : bd ≠ bp := Nat.ne_of_lt (Nat.lt_of_lt_of_le V_bd_273.lt (Nat.le_of_eq eq_bp.symm))
    have V_bd_277 := V_bd_273.ext Ext_bp
    have ne_bc_bp : bc ≠ bp := Nat.ne_of_lt (Nat.lt_of_lt_of_le V_bc_272.lt (Nat.le_of_eq eq_bp.symm))
    have V_bc_279 := V_bc_272.ext Ext_bp
    have Z280 : n0 ≤ h276.size := Nat.le_trans Z275 (Ext_bp.1)
    have F0_bp : Fld Z h276 bp "com/example/cranfield/cranfield/index/Postings" "documents" "[I" .null := D_bp (Or.inr (hw _ (List.mem_of_getElem? (i := 16) rfl))) (ty := (.array .int)) (by decide)
    have F1_bp : Fld Z h276 bp "com/example/cranfield/cranfield/index/Postings" "counts" "[I" .null := D_bp (Or.inr (hw _ (List.mem_of_getElem? (i := 18) rfl))) (ty := (.array .int)) (by decide)
    obtain ⟨_, _, ⟨T281, L281, k281, n281⟩, -, X281, ⟨Lc281, hQ281, l281, y281, z281⟩, st281⟩ := X276.specialBack hx (y := (⟨"com/example/cranfield/cranfield/index/Postings", "<init>", "([I[I)V"⟩ : MethodName)) rfl hown (mvT hZ (hw _ (List.mem_of_getElem? (i := 9) rfl))) (mvT hZ (hw _ (List.mem_of_getElem? (i := 10) rfl))) (mvT hZ (hw _ (List.mem_of_getElem? (i := 11) rfl))) (by decide) (backOf (W := 1) (rmC l Z a0 hw [] bp bd bc k_bd k_bc (4 : Int32) [(.int (0 : Int32)), (.int (1 : Int32)), (.int (2 : Int32)), (.int (3 : Int32))] [(.int u), (.int v), (.int w), (.int z)] h276 n0 Z280 E_bp F0_bp F1_bp g_bp V_bd_277 V_bc_279) hZ (hw _ (List.mem_of_getElem? (i := 11) rfl)) (hw _ (List.mem_of_getElem? (i := 8) rfl)) (by decide) (by decide)) (g := (mkF m 216 #[.val (.int p1), .val (.int p2), .val (.int p3), .val (.int p4), .val (.int p5), .val (.int n), .val (.int u), .val (.int v), .val (.int w), .val (.int z), .val (.ref bd), .val (.ref bc), .unset, .unset, .unset, .unset, .unset, .unset, .unset] [(.ref bc), (.ref bd), (.ref bp), (.ref bp)])) rfl (by rw [hml]; rfl) (Steps.refl _) (a := bp) (argsL := [(.ref bd), (.ref bc)]) (rest := [(.ref bp)]) (lenOf pd_1 rfl) rfl (by show 2 * 0 + _ ≤ _; exact Nat.le_of_eq rfl) (hb hby at_216) (fun _ _ => ⟨rfl, e276, (by decide : 3 + 0 ≤ _), (by decide : 10 + 0 ≤ _)⟩)
    dsimp only [Pt.U, Pt.locs, Pt.cells, Pt.slots] at X281 l281 y281 z281 st281 hQ281
    subst l281 y281 z281
    obtain ⟨rfl, N281q, K281, E281, F281⟩ := hQ281
    have N281 := Fr.app N272 N281q
    have V_bd_282 := V_bd_277.keep K281 (ninS ne_bd_bp nin0)
    have V_bc_284 := V_bc_279.keep K281 (ninS ne_bc_bp nin0)
    have Z287 : n0 ≤ T281.heap.size := Nat.le_trans Z280 (K281.1)
    obtain ⟨cq288, kq288, q288a, q288b, q288c⟩ := isOf hZ rfl E281
    obtain ⟨_, _, ⟨T288, L288, k288, n288⟩, -, X288, ⟨Lc288, hQ288, l288, y288, z288⟩, st288⟩ := X281.virtualBack hx (y := (⟨"com/example/cranfield/cranfield/index/Postings", "collectionFrequency", "()J"⟩ : MethodName)) (z := (⟨"com/example/cranfield/cranfield/index/Postings", "collectionFrequency", "()J"⟩ : MethodName)) hown (mvT hZ (hw _ (List.mem_of_getElem? (i := 19) rfl))) (mvT hZ (hw _ (List.mem_of_getElem? (i := 20) rfl))) (notFace_of_selects (args := #[]) (mvT hZ (hw _ (List.mem_of_getElem? (i := 22) rfl)))) (mvT hZ (hw _ (List.mem_of_getElem? (i := 22) rfl))) (mvT hZ (hw _ (List.mem_of_getElem? (i := 21) rfl))) (by decide) (backOf (W := 0) (rmF4 l Z a0 hw [] bp bc k_bc u v w z T281.heap n0 Z287 F281 V_bc_284) hZ (hw _ (List.mem_of_getElem? (i := 23) rfl)) (hw _ (List.mem_of_getElem? (i := 8) rfl)) (by decide) (by decide)) q288a q288c (g := (mkF m 282 #[.val (.int p1), .val (.int p2), .val (.int p3), .val (.int p4), .val (.int p5), .val (.int n), .val (.int u), .val (.int v), .val (.int w), .val (.int z), .val (.ref bd), .val (.ref bc), .val (.ref bp), .val (.long (((((0 : Int64) + (u.toInt64)) + (v.toInt64)) + (w.toInt64)) + (z.toInt64))), .second, .unset, .unset, .unset, .unset] [(.ref bp)])) rfl (by rw [hml]; rfl) (Steps.refl _) (argsL := []) (rest := []) (lenOf pd_2 rfl) rfl (by show 2 * 0 + _ ≤ _; exact Nat.le_of_eq rfl) (hb hby at_282) (fun _ _ => ⟨rfl, rfl, (by decide : 3 + 0 ≤ _), (by decide : 10 + 0 ≤ _)⟩)
    dsimp only [Pt.U, Pt.locs, Pt.cells, Pt.slots] at X288 l288 y288 z288 st288 hQ288
    subst l288 y288 z288
    obtain ⟨rfl, N288q, e288⟩ := hQ288
    have N288 := Fr.app N281 N288q
    obtain ⟨cq289, kq289, q289a, q289b, q289c⟩ := isOf hZ e288 E281
    obtain ⟨_, _, ⟨T289, L289, k289, n289⟩, -, X289, ⟨Lc289, hQ289, l289, y289, z289⟩, st289⟩ := X288.virtualBack hx (y := (⟨"com/example/cranfield/cranfield/index/Postings", "collectionFrequency", "()J"⟩ : MethodName)) (z := (⟨"com/example/cranfield/cranfield/index/Postings", "collectionFrequency", "()J"⟩ : MethodName)) hown (mvT hZ (hw _ (List.mem_of_getElem? (i := 19) rfl))) (mvT hZ (hw _ (List.mem_of_getElem? (i := 20) rfl))) (notFace_of_selects (args := #[]) (mvT hZ (hw _ (List.mem_of_getElem? (i := 22) rfl)))) (mvT hZ (hw _ (List.mem_of_getElem? (i := 22) rfl))) (mvT hZ (hw _ (List.mem_of_getElem? (i := 21) rfl))) (by decide) (backOf (W := 0) (rmF4 l Z a0 hw [] bp bc k_bc u v w z T281.heap n0 Z287 F281 V_bc_284) hZ (hw _ (List.mem_of_getElem? (i := 23) rfl)) (hw _ (List.mem_of_getElem? (i := 8) rfl)) (by decide) (by decide)) q289a q289c (g := (mkF m 289 #[.val (.int p1), .val (.int p2), .val (.int p3), .val (.int p4), .val (.int p5), .val (.int n), .val (.int u), .val (.int v), .val (.int w), .val (.int z), .val (.ref bd), .val (.ref bc), .val (.ref bp), .val (.long (((((0 : Int64) + (u.toInt64)) + (v.toInt64)) + (w.toInt64)) + (z.toInt64))), .second, .val (.long (((((0 : Int64) + (u.toInt64)) + (v.toInt64)) + (w.toInt64)) + (z.toInt64))), .second, .unset, .unset] [(.ref bp)])) rfl (by rw [hml]; rfl) (Steps.refl _) (argsL := []) (rest := []) (lenOf pd_2 rfl) rfl (by show 2 * 0 + _ ≤ _; exact Nat.le_of_eq rfl) (hb hby at_289) (fun _ _ => ⟨rfl, e288, (by decide : 3 + 0 ≤ _), (by decide : 10 + 0 ≤ _)⟩)
    dsimp only [Pt.U, Pt.locs, Pt.cells, Pt.slots] at X289 l289 y289 z289 st289 hQ289
    subst l289 y289 z289
    obtain ⟨rfl, N289q, e289⟩ := hQ289
    have N289 := Fr.app N288 N289q
    have pre290 : ∀ t_, Steps p.tables e below (T289.setTop (mkF m 315 #[.val (.int p1), .val (.int p2), .val (.int p3), .val (.int p4), .val (.int p5), .val (.int n), .val (.int u), .val (.int v), .val (.int w), .val (.int z), .val (.ref bd), .val (.ref bc), .val (.ref bp), .val (.long (((((0 : Int64) + (u.toInt64)) + (v.toInt64)) + (w.toInt64)) + (z.toInt64))), .second, .val (.long (((((0 : Int64) + (u.toInt64)) + (v.toInt64)) + (w.toInt64)) + (z.toInt64))), .second, .val (.long (((((0 : Int64) + (u.toInt64)) + (v.toInt64)) + (w.toInt64)) + (z.toInt64))), .second] [(.int (1 : Int32))])) t_ → Steps p.tables e below (s₁.setTop (entryFrame m #[(.int p1), (.int p2), (.int p3), (.int p4), (.int p5)] maxLocals)) t_ := fun t_ k_ => pre110 _ (by
      show Steps p.tables e below (T108.setTop (mkF m 35 #[.val (.int p1), .val (.int p2), .val (.int p3), .val (.int p4), .val (.int p5), .val (.int n), .val (.int u), .val (.int v), .val (.int w), .val (.int z), .unset, .unset, .unset, .unset, .unset, .unset, .unset, .unset, .unset] [(.int n)])) _
      refine XS.ifYes X108.here hx rfl (pc0 := 35) (pc' := 51) rfl (hb hby at_35) rfl ((if0 _ _).trans (feq (by rw [q]; decide)).2) (by decide) (by decide) ?_
      show Steps p.tables e below (T108.setTop (mkF m 51 #[.val (.int p1), .val (.int p2), .val (.int p3), .val (.int p4), .val (.int p5), .val (.int n), .val (.int u), .val (.int v), .val (.int w), .val (.int z), .unset, .unset, .unset, .unset, .unset, .unset, .unset, .unset, .unset] [])) _
      refine XS.iload X108.here hx rfl (hb hby at_51) rfl ?_
      show Steps p.tables e below (T108.setTop (mkF m 53 #[.val (.int p1), .val (.int p2), .val (.int p3), .val (.int p4), .val (.int p5), .val (.int n), .val (.int u), .val (.int v), .val (.int w), .val (.int z), .unset, .unset, .unset, .unset, .unset, .unset, .unset, .unset, .unset] [(.int n)])) _
      refine XS.iconst X108.here hx rfl (hb hby at_53) ?_
      show Steps p.tables e below (T108.setTop (mkF m 54 #[.val (.int p1), .val (.int p2), .val (.int p3), .val (.int p4), .val (.int p5), .val (.int n), .val (.int u), .val (.int v), .val (.int w), .val (.int z), .unset, .unset, .unset, .unset, .unset, .unset, .unset, .unset, .unset] [(.int (1 : Int32)), (.int n)])) _
      refine XS.icmpYes X108.here hx rfl (pc0 := 54) (pc' := 79) rfl (hb hby at_54) rfl (feq (by rw [q]; decide)).2 (by decide) (by decide) ?_
      show Steps p.tables e below (T108.setTop (mkF m 79 #[.val (.int p1), .val (.int p2), .val (.int p3), .val (.int p4), .val (.int p5), .val (.int n), .val (.int u), .val (.int v), .val (.int w), .val (.int z), .unset, .unset, .unset, .unset, .unset, .unset, .unset, .unset, .unset] [])) _
      refine XS.iload X108.here hx rfl (hb hby at_79) rfl ?_
      show Steps p.tables e below (T108.setTop (mkF m 81 #[.val (.int p1), .val (.int p2), .val (.int p3), .val (.int p4), .val (.int p5), .val (.int n), .val (.int u), .val (.int v), .val (.int w), .val (.int z), .unset, .unset, .unset, .unset, .unset, .unset, .unset, .unset, .unset] [(.int n)])) _
      refine XS.iconst X108.here hx rfl (hb hby at_81) ?_
      show Steps p.tables e below (T108.setTop (mkF m 82 #[.val (.int p1), .val (.int p2), .val (.int p3), .val (.int p4), .val (.int p5), .val (.int n), .val (.int u), .val (.int v), .val (.int w), .val (.int z), .unset, .unset, .unset, .unset, .unset, .unset, .unset, .unset, .unset] [(.int (2 : Int32)), (.int n)])) _
      refine XS.icmpYes X108.here hx rfl (pc0 := 82) (pc' := 116) rfl (hb hby at_82) rfl (feq (by rw [q]; decide)).2 (by decide) (by decide) ?_
      show Steps p.tables e below (T108.setTop (mkF m 116 #[.val (.int p1), .val (.int p2), .val (.int p3), .val (.int p4), .val (.int p5), .val (.int n), .val (.int u), .val (.int v), .val (.int w), .val (.int z), .unset, .unset, .unset, .unset, .unset, .unset, .unset, .unset, .unset] [])) _
      refine XS.iload X108.here hx rfl (hb hby at_116) rfl ?_
      show Steps p.tables e below (T108.setTop (mkF m 118 #[.val (.int p1), .val (.int p2), .val (.int p3), .val (.int p4), .val (.int p5), .val (.int n), .val (.int u), .val (.int v), .val (.int w), .val (.int z), .unset, .unset, .unset, .unset, .unset, .unset, .unset, .unset, .unset] [(.int n)])) _
      refine XS.iconst X108.here hx rfl (hb hby at_118) ?_
      show Steps p.tables e below (T108.setTop (mkF m 119 #[.val (.int p1), .val (.int p2), .val (.int p3), .val (.int p4), .val (.int p5), .val (.int n), .val (.int u), .val (.int v), .val (.int w), .val (.int z), .unset, .unset, .unset, .unset, .unset, .unset, .unset, .unset, .unset] [(.int (3 : Int32)), (.int n)])) _
      refine XS.icmpYes X108.here hx rfl (pc0 := 119) (pc' := 162) rfl (hb hby at_119) rfl (feq (by rw [q]; decide)).2 (by decide) (by decide) ?_
      show Steps p.tables e below (T108.setTop (mkF m 162 #[.val (.int p1), .val (.int p2), .val (.int p3), .val (.int p4), .val (.int p5), .val (.int n), .val (.int u), .val (.int v), .val (.int w), .val (.int z), .unset, .unset, .unset, .unset, .unset, .unset, .unset, .unset, .unset] [])) _
      refine XS.iconst X108.here hx rfl (hb hby at_162) ?_
      show Steps p.tables e below (T108.setTop (mkF m 163 #[.val (.int p1), .val (.int p2), .val (.int p3), .val (.int p4), .val (.int p5), .val (.int n), .val (.int u), .val (.int v), .val (.int w), .val (.int z), .unset, .unset, .unset, .unset, .unset, .unset, .unset, .unset, .unset] [(.int (4 : Int32))])) _
      refine st239 _ ?_
      show Steps p.tables e below (T239.setTop (mkF m 165 #[.val (.int p1), .val (.int p2), .val (.int p3), .val (.int p4), .val (.int p5), .val (.int n), .val (.int u), .val (.int v), .val (.int w), .val (.int z), .unset, .unset, .unset, .unset, .unset, .unset, .unset, .unset, .unset] [(.ref bd)])) _
      refine XS.dup X239.here hx rfl (hb hby at_165) rfl rfl ?_
      show Steps p.tables e below (T239.setTop (mkF m 166 #[.val (.int p1), .val (.int p2), .val (.int p3), .val (.int p4), .val (.int p5), .val (.int n), .val (.int u), .val (.int v), .val (.int w), .val (.int z), .unset, .unset, .unset, .unset, .unset, .unset, .unset, .unset, .unset] [(.ref bd), (.ref bd)])) _
      refine XS.iconst X239.here hx rfl (hb hby at_166) ?_
      show Steps p.tables e below (T239.setTop (mkF m 167 #[.val (.int p1), .val (.int p2), .val (.int p3), .val (.int p4), .val (.int p5), .val (.int n), .val (.int u), .val (.int v), .val (.int w), .val (.int z), .unset, .unset, .unset, .unset, .unset, .unset, .unset, .unset, .unset] [(.int (0 : Int32)), (.ref bd), (.ref bd)])) _
      refine XS.iconst X239.here hx rfl (hb hby at_167) ?_
      show Steps p.tables e below (T239.setTop (mkF m 168 #[.val (.int p1), .val (.int p2), .val (.int p3), .val (.int p4), .val (.int p5), .val (.int n), .val (.int u), .val (.int v), .val (.int w), .val (.int z), .unset, .unset, .unset, .unset, .unset, .unset, .unset, .unset, .unset] [(.int (0 : Int32)), (.int (0 : Int32)), (.ref bd), (.ref bd)])) _
      refine st242 _ ?_
      show Steps p.tables e below (T242.setTop (mkF m 169 #[.val (.int p1), .val (.int p2), .val (.int p3), .val (.int p4), .val (.int p5), .val (.int n), .val (.int u), .val (.int v), .val (.int w), .val (.int z), .unset, .unset, .unset, .unset, .unset, .unset, .unset, .unset, .unset] [(.ref bd)])) _
      refine XS.dup X242.here hx rfl (hb hby at_169) rfl rfl ?_
      show Steps p.tables e below (T242.setTop (mkF m 170 #[.val (.int p1), .val (.int p2), .val (.int p3), .val (.int p4), .val (.int p5), .val (.int n), .val (.int u), .val (.int v), .val (.int w), .val (.int z), .unset, .unset, .unset, .unset, .unset, .unset, .unset, .unset, .unset] [(.ref bd), (.ref bd)])) _
      refine XS.iconst X242.here hx rfl (hb hby at_170) ?_
      show Steps p.tables e below (T242.setTop (mkF m 171 #[.val (.int p1), .val (.int p2), .val (.int p3), .val (.int p4), .val (.int p5), .val (.int n), .val (.int u), .val (.int v), .val (.int w), .val (.int z), .unset, .unset, .unset, .unset, .unset, .unset, .unset, .unset, .unset] [(.int (1 : Int32)), (.ref bd), (.ref bd)])) _
      refine XS.iconst X242.here hx rfl (hb hby at_171) ?_
      show Steps p.tables e below (T242.setTop (mkF m 172 #[.val (.int p1), .val (.int p2), .val (.int p3), .val (.int p4), .val (.int p5), .val (.int n), .val (.int u), .val (.int v), .val (.int w), .val (.int z), .unset, .unset, .unset, .unset, .unset, .unset, .unset, .unset, .unset] [(.int (1 : Int32)), (.int (1 : Int32)), (.ref bd), (.ref bd)])) _
      refine st245 _ ?_
      show Steps p.tables e below (T245.setTop (mkF m 173 #[.val (.int p1), .val (.int p2), .val (.int p3), .val (.int p4), .val (.int p5), .val (.int n), .val (.int u), .val (.int v), .val (.int w), .val (.int z), .unset, .unset, .unset, .unset, .unset, .unset, .unset, .unset, .unset] [(.ref bd)])) _
      refine XS.dup X245.here hx rfl (hb hby at_173) rfl rfl ?_
      show Steps p.tables e below (T245.setTop (mkF m 174 #[.val (.int p1), .val (.int p2), .val (.int p3), .val (.int p4), .val (.int p5), .val (.int n), .val (.int u), .val (.int v), .val (.int w), .val (.int z), .unset, .unset, .unset, .unset, .unset, .unset, .unset, .unset, .unset] [(.ref bd), (.ref bd)])) _
      refine XS.iconst X245.here hx rfl (hb hby at_174) ?_
      show Steps p.tables e below (T245.setTop (mkF m 175 #[.val (.int p1), .val (.int p2), .val (.int p3), .val (.int p4), .val (.int p5), .val (.int n), .val (.int u), .val (.int v), .val (.int w), .val (.int z), .unset, .unset, .unset, .unset, .unset, .unset, .unset, .unset, .unset] [(.int (2 : Int32)), (.ref bd), (.ref bd)])) _
      refine XS.iconst X245.here hx rfl (hb hby at_175) ?_
      show Steps p.tables e below (T245.setTop (mkF m 176 #[.val (.int p1), .val (.int p2), .val (.int p3), .val (.int p4), .val (.int p5), .val (.int n), .val (.int u), .val (.int v), .val (.int w), .val (.int z), .unset, .unset, .unset, .unset, .unset, .unset, .unset, .unset, .unset] [(.int (2 : Int32)), (.int (2 : Int32)), (.ref bd), (.ref bd)])) _
      refine st248 _ ?_
      show Steps p.tables e below (T248.setTop (mkF m 177 #[.val (.int p1), .val (.int p2), .val (.int p3), .val (.int p4), .val (.int p5), .val (.int n), .val (.int u), .val (.int v), .val (.int w), .val (.int z), .unset, .unset, .unset, .unset, .unset, .unset, .unset, .unset, .unset] [(.ref bd)])) _
      refine XS.dup X248.here hx rfl (hb hby at_177) rfl rfl ?_
      show Steps p.tables e below (T248.setTop (mkF m 178 #[.val (.int p1), .val (.int p2), .val (.int p3), .val (.int p4), .val (.int p5), .val (.int n), .val (.int u), .val (.int v), .val (.int w), .val (.int z), .unset, .unset, .unset, .unset, .unset, .unset, .unset, .unset, .unset] [(.ref bd), (.ref bd)])) _
      refine XS.iconst X248.here hx rfl (hb hby at_178) ?_
      show Steps p.tables e below (T248.setTop (mkF m 179 #[.val (.int p1), .val (.int p2), .val (.int p3), .val (.int p4), .val (.int p5), .val (.int n), .val (.int u), .val (.int v), .val (.int w), .val (.int z), .unset, .unset, .unset, .unset, .unset, .unset, .unset, .unset, .unset] [(.int (3 : Int32)), (.ref bd), (.ref bd)])) _
      refine XS.iconst X248.here hx rfl (hb hby at_179) ?_
      show Steps p.tables e below (T248.setTop (mkF m 180 #[.val (.int p1), .val (.int p2), .val (.int p3), .val (.int p4), .val (.int p5), .val (.int n), .val (.int u), .val (.int v), .val (.int w), .val (.int z), .unset, .unset, .unset, .unset, .unset, .unset, .unset, .unset, .unset] [(.int (3 : Int32)), (.int (3 : Int32)), (.ref bd), (.ref bd)])) _
      refine st251 _ ?_
      show Steps p.tables e below (T251.setTop (mkF m 181 #[.val (.int p1), .val (.int p2), .val (.int p3), .val (.int p4), .val (.int p5), .val (.int n), .val (.int u), .val (.int v), .val (.int w), .val (.int z), .unset, .unset, .unset, .unset, .unset, .unset, .unset, .unset, .unset] [(.ref bd)])) _
      refine XS.astore X251.here hx rfl (hb hby at_181) rfl rfl (l' := #[.val (.int p1), .val (.int p2), .val (.int p3), .val (.int p4), .val (.int p5), .val (.int n), .val (.int u), .val (.int v), .val (.int w), .val (.int z), .val (.ref bd), .unset, .unset, .unset, .unset, .unset, .unset, .unset, .unset]) rfl ?_
      show Steps p.tables e below (T251.setTop (mkF m 183 #[.val (.int p1), .val (.int p2), .val (.int p3), .val (.int p4), .val (.int p5), .val (.int n), .val (.int u), .val (.int v), .val (.int w), .val (.int z), .val (.ref bd), .unset, .unset, .unset, .unset, .unset, .unset, .unset, .unset] [])) _
      refine XS.iconst X251.here hx rfl (hb hby at_183) ?_
      show Steps p.tables e below (T251.setTop (mkF m 184 #[.val (.int p1), .val (.int p2), .val (.int p3), .val (.int p4), .val (.int p5), .val (.int n), .val (.int u), .val (.int v), .val (.int w), .val (.int z), .val (.ref bd), .unset, .unset, .unset, .unset, .unset, .unset, .unset, .unset] [(.int (4 : Int32))])) _
      refine st253 _ ?_
      show Steps p.tables e below (T253.setTop (mkF m 186 #[.val (.int p1), .val (.int p2), .val (.int p3), .val (.int p4), .val (.int p5), .val (.int n), .val (.int u), .val (.int v), .val (.int w), .val (.int z), .val (.ref bd), .unset, .unset, .unset, .unset, .unset, .unset, .unset, .unset] [(.ref bc)])) _
      refine XS.dup X253.here hx rfl (hb hby at_186) rfl rfl ?_
      show Steps p.tables e below (T253.setTop (mkF m 187 #[.val (.int p1), .val (.int p2), .val (.int p3), .val (.int p4), .val (.int p5), .val (.int n), .val (.int u), .val (.int v), .val (.int w), .val (.int z), .val (.ref bd), .unset, .unset, .unset, .unset, .unset, .unset, .unset, .unset] [(.ref bc), (.ref bc)])) _
      refine XS.iconst X253.here hx rfl (hb hby at_187) ?_
      show Steps p.tables e below (T253.setTop (mkF m 188 #[.val (.int p1), .val (.int p2), .val (.int p3), .val (.int p4), .val (.int p5), .val (.int n), .val (.int u), .val (.int v), .val (.int w), .val (.int z), .val (.ref bd), .unset, .unset, .unset, .unset, .unset, .unset, .unset, .unset] [(.int (0 : Int32)), (.ref bc), (.ref bc)])) _
      refine XS.iload X253.here hx rfl (hb hby at_188) rfl ?_
      show Steps p.tables e below (T253.setTop (mkF m 190 #[.val (.int p1), .val (.int p2), .val (.int p3), .val (.int p4), .val (.int p5), .val (.int n), .val (.int u), .val (.int v), .val (.int w), .val (.int z), .val (.ref bd), .unset, .unset, .unset, .unset, .unset, .unset, .unset, .unset] [(.int u), (.int (0 : Int32)), (.ref bc), (.ref bc)])) _
      refine st257 _ ?_
      show Steps p.tables e below (T257.setTop (mkF m 191 #[.val (.int p1), .val (.int p2), .val (.int p3), .val (.int p4), .val (.int p5), .val (.int n), .val (.int u), .val (.int v), .val (.int w), .val (.int z), .val (.ref bd), .unset, .unset, .unset, .unset, .unset, .unset, .unset, .unset] [(.ref bc)])) _
      refine XS.dup X257.here hx rfl (hb hby at_191) rfl rfl ?_
      show Steps p.tables e below (T257.setTop (mkF m 192 #[.val (.int p1), .val (.int p2), .val (.int p3), .val (.int p4), .val (.int p5), .val (.int n), .val (.int u), .val (.int v), .val (.int w), .val (.int z), .val (.ref bd), .unset, .unset, .unset, .unset, .unset, .unset, .unset, .unset] [(.ref bc), (.ref bc)])) _
      refine XS.iconst X257.here hx rfl (hb hby at_192) ?_
      show Steps p.tables e below (T257.setTop (mkF m 193 #[.val (.int p1), .val (.int p2), .val (.int p3), .val (.int p4), .val (.int p5), .val (.int n), .val (.int u), .val (.int v), .val (.int w), .val (.int z), .val (.ref bd), .unset, .unset, .unset, .unset, .unset, .unset, .unset, .unset] [(.int (1 : Int32)), (.ref bc), (.ref bc)])) _
      refine XS.iload X257.here hx rfl (hb hby at_193) rfl ?_
      show Steps p.tables e below (T257.setTop (mkF m 195 #[.val (.int p1), .val (.int p2), .val (.int p3), .val (.int p4), .val (.int p5), .val (.int n), .val (.int u), .val (.int v), .val (.int w), .val (.int z), .val (.ref bd), .unset, .unset, .unset, .unset, .unset, .unset, .unset, .unset] [(.int v), (.int (1 : Int32)), (.ref bc), (.ref bc)])) _
      refine st262 _ ?_
      show Steps p.tables e below (T262.setTop (mkF m 196 #[.val (.int p1), .val (.int p2), .val (.int p3), .val (.int p4), .val (.int p5), .val (.int n), .val (.int u), .val (.int v), .val (.int w), .val (.int z), .val (.ref bd), .unset, .unset, .unset, .unset, .unset, .unset, .unset, .unset] [(.ref bc)])) _
      refine XS.dup X262.here hx rfl (hb hby at_196) rfl rfl ?_
      show Steps p.tables e below (T262.setTop (mkF m 197 #[.val (.int p1), .val (.int p2), .val (.int p3), .val (.int p4), .val (.int p5), .val (.int n), .val (.int u), .val (.int v), .val (.int w), .val (.int z), .val (.ref bd), .unset, .unset, .unset, .unset, .unset, .unset, .unset, .unset] [(.ref bc), (.ref bc)])) _
      refine XS.iconst X262.here hx rfl (hb hby at_197) ?_
      show Steps p.tables e below (T262.setTop (mkF m 198 #[.val (.int p1), .val (.int p2), .val (.int p3), .val (.int p4), .val (.int p5), .val (.int n), .val (.int u), .val (.int v), .val (.int w), .val (.int z), .val (.ref bd), .unset, .unset, .unset, .unset, .unset, .unset, .unset, .unset] [(.int (2 : Int32)), (.ref bc), (.ref bc)])) _
      refine XS.iload X262.here hx rfl (hb hby at_198) rfl ?_
      show Steps p.tables e below (T262.setTop (mkF m 200 #[.val (.int p1), .val (.int p2), .val (.int p3), .val (.int p4), .val (.int p5), .val (.int n), .val (.int u), .val (.int v), .val (.int w), .val (.int z), .val (.ref bd), .unset, .unset, .unset, .unset, .unset, .unset, .unset, .unset] [(.int w), (.int (2 : Int32)), (.ref bc), (.ref bc)])) _
      refine st267 _ ?_
      show Steps p.tables e below (T267.setTop (mkF m 201 #[.val (.int p1), .val (.int p2), .val (.int p3), .val (.int p4), .val (.int p5), .val (.int n), .val (.int u), .val (.int v), .val (.int w), .val (.int z), .val (.ref bd), .unset, .unset, .unset, .unset, .unset, .unset, .unset, .unset] [(.ref bc)])) _
      refine XS.dup X267.here hx rfl (hb hby at_201) rfl rfl ?_
      show Steps p.tables e below (T267.setTop (mkF m 202 #[.val (.int p1), .val (.int p2), .val (.int p3), .val (.int p4), .val (.int p5), .val (.int n), .val (.int u), .val (.int v), .val (.int w), .val (.int z), .val (.ref bd), .unset, .unset, .unset, .unset, .unset, .unset, .unset, .unset] [(.ref bc), (.ref bc)])) _
      refine XS.iconst X267.here hx rfl (hb hby at_202) ?_
      show Steps p.tables e below (T267.setTop (mkF m 203 #[.val (.int p1), .val (.int p2), .val (.int p3), .val (.int p4), .val (.int p5), .val (.int n), .val (.int u), .val (.int v), .val (.int w), .val (.int z), .val (.ref bd), .unset, .unset, .unset, .unset, .unset, .unset, .unset, .unset] [(.int (3 : Int32)), (.ref bc), (.ref bc)])) _
      refine XS.iload X267.here hx rfl (hb hby at_203) rfl ?_
      show Steps p.tables e below (T267.setTop (mkF m 205 #[.val (.int p1), .val (.int p2), .val (.int p3), .val (.int p4), .val (.int p5), .val (.int n), .val (.int u), .val (.int v), .val (.int w), .val (.int z), .val (.ref bd), .unset, .unset, .unset, .unset, .unset, .unset, .unset, .unset] [(.int z), (.int (3 : Int32)), (.ref bc), (.ref bc)])) _
      refine st272 _ ?_
      show Steps p.tables e below (T272.setTop (mkF m 206 #[.val (.int p1), .val (.int p2), .val (.int p3), .val (.int p4), .val (.int p5), .val (.int n), .val (.int u), .val (.int v), .val (.int w), .val (.int z), .val (.ref bd), .unset, .unset, .unset, .unset, .unset, .unset, .unset, .unset] [(.ref bc)])) _
      refine XS.astore X272.here hx rfl (hb hby at_206) rfl rfl (l' := #[.val (.int p1), .val (.int p2), .val (.int p3), .val (.int p4), .val (.int p5), .val (.int n), .val (.int u), .val (.int v), .val (.int w), .val (.int z), .val (.ref bd), .val (.ref bc), .unset, .unset, .unset, .unset, .unset, .unset, .unset]) rfl ?_
      show Steps p.tables e below (T272.setTop (mkF m 208 #[.val (.int p1), .val (.int p2), .val (.int p3), .val (.int p4), .val (.int p5), .val (.int n), .val (.int u), .val (.int v), .val (.int w), .val (.int z), .val (.ref bd), .val (.ref bc), .unset, .unset, .unset, .unset, .unset, .unset, .unset] [])) _
      refine st276 _ ?_
      show Steps p.tables e below (T276.setTop (mkF m 211 #[.val (.int p1), .val (.int p2), .val (.int p3), .val (.int p4), .val (.int p5), .val (.int n), .val (.int u), .val (.int v), .val (.int w), .val (.int z), .val (.ref bd), .val (.ref bc), .unset, .unset, .unset, .unset, .unset, .unset, .unset] [(.ref bp)])) _
      refine XS.dup X276.here hx rfl (hb hby at_211) rfl rfl ?_
      show Steps p.tables e below (T276.setTop (mkF m 212 #[.val (.int p1), .val (.int p2), .val (.int p3), .val (.int p4), .val (.int p5), .val (.int n), .val (.int u), .val (.int v), .val (.int w), .val (.int z), .val (.ref bd), .val (.ref bc), .unset, .unset, .unset, .unset, .unset, .unset, .unset] [(.ref bp), (.ref bp)])) _
      refine XS.aload X276.here hx rfl (hb hby at_212) rfl rfl ?_
      show Steps p.tables e below (T276.setTop (mkF m 214 #[.val (.int p1), .val (.int p2), .val (.int p3), .val (.int p4), .val (.int p5), .val (.int n), .val (.int u), .val (.int v), .val (.int w), .val (.int z), .val (.ref bd), .val (.ref bc), .unset, .unset, .unset, .unset, .unset, .unset, .unset] [(.ref bd), (.ref bp), (.ref bp)])) _
      refine XS.aload X276.here hx rfl (hb hby at_214) rfl rfl ?_
      show Steps p.tables e below (T276.setTop (mkF m 216 #[.val (.int p1), .val (.int p2), .val (.int p3), .val (.int p4), .val (.int p5), .val (.int n), .val (.int u), .val (.int v), .val (.int w), .val (.int z), .val (.ref bd), .val (.ref bc), .unset, .unset, .unset, .unset, .unset, .unset, .unset] [(.ref bc), (.ref bd), (.ref bp), (.ref bp)])) _
      refine st281.trans ?_
      show Steps p.tables e below (T281.setTop (mkF m 219 #[.val (.int p1), .val (.int p2), .val (.int p3), .val (.int p4), .val (.int p5), .val (.int n), .val (.int u), .val (.int v), .val (.int w), .val (.int z), .val (.ref bd), .val (.ref bc), .unset, .unset, .unset, .unset, .unset, .unset, .unset] [(.ref bp)])) _
      refine XS.astore X281.here hx rfl (hb hby at_219) rfl rfl (l' := #[.val (.int p1), .val (.int p2), .val (.int p3), .val (.int p4), .val (.int p5), .val (.int n), .val (.int u), .val (.int v), .val (.int w), .val (.int z), .val (.ref bd), .val (.ref bc), .val (.ref bp), .unset, .unset, .unset, .unset, .unset, .unset]) rfl ?_
      show Steps p.tables e below (T281.setTop (mkF m 221 #[.val (.int p1), .val (.int p2), .val (.int p3), .val (.int p4), .val (.int p5), .val (.int n), .val (.int u), .val (.int v), .val (.int w), .val (.int z), .val (.ref bd), .val (.ref bc), .val (.ref bp), .unset, .unset, .unset, .unset, .unset, .unset] [])) _
      refine XS.lconst X281.here hx rfl (hb hby at_221) ?_
      show Steps p.tables e below (T281.setTop (mkF m 222 #[.val (.int p1), .val (.int p2), .val (.int p3), .val (.int p4), .val (.int p5), .val (.int n), .val (.int u), .val (.int v), .val (.int w), .val (.int z), .val (.ref bd), .val (.ref bc), .val (.ref bp), .unset, .unset, .unset, .unset, .unset, .unset] [(.long (0 : Int64))])) _
      refine XS.lstore X281.here hx rfl (hb hby at_222) rfl (l' := #[.val (.int p1), .val (.int p2), .val (.int p3), .val (.int p4), .val (.int p5), .val (.int n), .val (.int u), .val (.int v), .val (.int w), .val (.int z), .val (.ref bd), .val (.ref bc), .val (.ref bp), .val (.long (0 : Int64)), .second, .unset, .unset, .unset, .unset]) rfl ?_
      show Steps p.tables e below (T281.setTop (mkF m 224 #[.val (.int p1), .val (.int p2), .val (.int p3), .val (.int p4), .val (.int p5), .val (.int n), .val (.int u), .val (.int v), .val (.int w), .val (.int z), .val (.ref bd), .val (.ref bc), .val (.ref bp), .val (.long (0 : Int64)), .second, .unset, .unset, .unset, .unset] [])) _
      refine XS.iload X281.here hx rfl (hb hby at_224) rfl ?_
      show Steps p.tables e below (T281.setTop (mkF m 226 #[.val (.int p1), .val (.int p2), .val (.int p3), .val (.int p4), .val (.int p5), .val (.int n), .val (.int u), .val (.int v), .val (.int w), .val (.int z), .val (.ref bd), .val (.ref bc), .val (.ref bp), .val (.long (0 : Int64)), .second, .unset, .unset, .unset, .unset] [(.int n)])) _
      refine XS.iconst X281.here hx rfl (hb hby at_226) ?_
      show Steps p.tables e below (T281.setTop (mkF m 227 #[.val (.int p1), .val (.int p2), .val (.int p3), .val (.int p4), .val (.int p5), .val (.int n), .val (.int u), .val (.int v), .val (.int w), .val (.int z), .val (.ref bd), .val (.ref bc), .val (.ref bp), .val (.long (0 : Int64)), .second, .unset, .unset, .unset, .unset] [(.int (1 : Int32)), (.int n)])) _
      refine XS.icmpNo X281.here hx rfl (hb hby at_227) rfl (flt (by rw [q]; decide)).1 ?_
      show Steps p.tables e below (T281.setTop (mkF m 230 #[.val (.int p1), .val (.int p2), .val (.int p3), .val (.int p4), .val (.int p5), .val (.int n), .val (.int u), .val (.int v), .val (.int w), .val (.int z), .val (.ref bd), .val (.ref bc), .val (.ref bp), .val (.long (0 : Int64)), .second, .unset, .unset, .unset, .unset] [])) _
      refine XS.lload X281.here hx rfl (hb hby at_230) rfl ?_
      show Steps p.tables e below (T281.setTop (mkF m 232 #[.val (.int p1), .val (.int p2), .val (.int p3), .val (.int p4), .val (.int p5), .val (.int n), .val (.int u), .val (.int v), .val (.int w), .val (.int z), .val (.ref bd), .val (.ref bc), .val (.ref bp), .val (.long (0 : Int64)), .second, .unset, .unset, .unset, .unset] [(.long (0 : Int64))])) _
      refine XS.iload X281.here hx rfl (hb hby at_232) rfl ?_
      show Steps p.tables e below (T281.setTop (mkF m 234 #[.val (.int p1), .val (.int p2), .val (.int p3), .val (.int p4), .val (.int p5), .val (.int n), .val (.int u), .val (.int v), .val (.int w), .val (.int z), .val (.ref bd), .val (.ref bc), .val (.ref bp), .val (.long (0 : Int64)), .second, .unset, .unset, .unset, .unset] [(.int u), (.long (0 : Int64))])) _
      refine XS.i2l X281.here hx rfl (hb hby at_234) rfl ?_
      show Steps p.tables e below (T281.setTop (mkF m 235 #[.val (.int p1), .val (.int p2), .val (.int p3), .val (.int p4), .val (.int p5), .val (.int n), .val (.int u), .val (.int v), .val (.int w), .val (.int z), .val (.ref bd), .val (.ref bc), .val (.ref bp), .val (.long (0 : Int64)), .second, .unset, .unset, .unset, .unset] [(.long (u.toInt64)), (.long (0 : Int64))])) _
      refine XS.ladd X281.here hx rfl (hb hby at_235) rfl ?_
      show Steps p.tables e below (T281.setTop (mkF m 236 #[.val (.int p1), .val (.int p2), .val (.int p3), .val (.int p4), .val (.int p5), .val (.int n), .val (.int u), .val (.int v), .val (.int w), .val (.int z), .val (.ref bd), .val (.ref bc), .val (.ref bp), .val (.long (0 : Int64)), .second, .unset, .unset, .unset, .unset] [(.long ((0 : Int64) + (u.toInt64)))])) _
      refine XS.lstore X281.here hx rfl (hb hby at_236) rfl (l' := #[.val (.int p1), .val (.int p2), .val (.int p3), .val (.int p4), .val (.int p5), .val (.int n), .val (.int u), .val (.int v), .val (.int w), .val (.int z), .val (.ref bd), .val (.ref bc), .val (.ref bp), .val (.long ((0 : Int64) + (u.toInt64))), .second, .unset, .unset, .unset, .unset]) rfl ?_
      show Steps p.tables e below (T281.setTop (mkF m 238 #[.val (.int p1), .val (.int p2), .val (.int p3), .val (.int p4), .val (.int p5), .val (.int n), .val (.int u), .val (.int v), .val (.int w), .val (.int z), .val (.ref bd), .val (.ref bc), .val (.ref bp), .val (.long ((0 : Int64) + (u.toInt64))), .second, .unset, .unset, .unset, .unset] [])) _
      refine XS.iload X281.here hx rfl (hb hby at_238) rfl ?_
      show Steps p.tables e below (T281.setTop (mkF m 240 #[.val (.int p1), .val (.int p2), .val (.int p3), .val (.int p4), .val (.int p5), .val (.int n), .val (.int u), .val (.int v), .val (.int w), .val (.int z), .val (.ref bd), .val (.ref bc), .val (.ref bp), .val (.long ((0 : Int64) + (u.toInt64))), .second, .unset, .unset, .unset, .unset] [(.int n)])) _
      refine XS.iconst X281.here hx rfl (hb hby at_240) ?_
      show Steps p.tables e below (T281.setTop (mkF m 241 #[.val (.int p1), .val (.int p2), .val (.int p3), .val (.int p4), .val (.int p5), .val (.int n), .val (.int u), .val (.int v), .val (.int w), .val (.int z), .val (.ref bd), .val (.ref bc), .val (.ref bp), .val (.long ((0 : Int64) + (u.toInt64))), .second, .unset, .unset, .unset, .unset] [(.int (2 : Int32)), (.int n)])) _
      refine XS.icmpNo X281.here hx rfl (hb hby at_241) rfl (flt (by rw [q]; decide)).1 ?_
      show Steps p.tables e below (T281.setTop (mkF m 244 #[.val (.int p1), .val (.int p2), .val (.int p3), .val (.int p4), .val (.int p5), .val (.int n), .val (.int u), .val (.int v), .val (.int w), .val (.int z), .val (.ref bd), .val (.ref bc), .val (.ref bp), .val (.long ((0 : Int64) + (u.toInt64))), .second, .unset, .unset, .unset, .unset] [])) _
      refine XS.lload X281.here hx rfl (hb hby at_244) rfl ?_
      show Steps p.tables e below (T281.setTop (mkF m 246 #[.val (.int p1), .val (.int p2), .val (.int p3), .val (.int p4), .val (.int p5), .val (.int n), .val (.int u), .val (.int v), .val (.int w), .val (.int z), .val (.ref bd), .val (.ref bc), .val (.ref bp), .val (.long ((0 : Int64) + (u.toInt64))), .second, .unset, .unset, .unset, .unset] [(.long ((0 : Int64) + (u.toInt64)))])) _
      refine XS.iload X281.here hx rfl (hb hby at_246) rfl ?_
      show Steps p.tables e below (T281.setTop (mkF m 248 #[.val (.int p1), .val (.int p2), .val (.int p3), .val (.int p4), .val (.int p5), .val (.int n), .val (.int u), .val (.int v), .val (.int w), .val (.int z), .val (.ref bd), .val (.ref bc), .val (.ref bp), .val (.long ((0 : Int64) + (u.toInt64))), .second, .unset, .unset, .unset, .unset] [(.int v), (.long ((0 : Int64) + (u.toInt64)))])) _
      refine XS.i2l X281.here hx rfl (hb hby at_248) rfl ?_
      show Steps p.tables e below (T281.setTop (mkF m 249 #[.val (.int p1), .val (.int p2), .val (.int p3), .val (.int p4), .val (.int p5), .val (.int n), .val (.int u), .val (.int v), .val (.int w), .val (.int z), .val (.ref bd), .val (.ref bc), .val (.ref bp), .val (.long ((0 : Int64) + (u.toInt64))), .second, .unset, .unset, .unset, .unset] [(.long (v.toInt64)), (.long ((0 : Int64) + (u.toInt64)))])) _
      refine XS.ladd X281.here hx rfl (hb hby at_249) rfl ?_
      show Steps p.tables e below (T281.setTop (mkF m 250 #[.val (.int p1), .val (.int p2), .val (.int p3), .val (.int p4), .val (.int p5), .val (.int n), .val (.int u), .val (.int v), .val (.int w), .val (.int z), .val (.ref bd), .val (.ref bc), .val (.ref bp), .val (.long ((0 : Int64) + (u.toInt64))), .second, .unset, .unset, .unset, .unset] [(.long (((0 : Int64) + (u.toInt64)) + (v.toInt64)))])) _
      refine XS.lstore X281.here hx rfl (hb hby at_250) rfl (l' := #[.val (.int p1), .val (.int p2), .val (.int p3), .val (.int p4), .val (.int p5), .val (.int n), .val (.int u), .val (.int v), .val (.int w), .val (.int z), .val (.ref bd), .val (.ref bc), .val (.ref bp), .val (.long (((0 : Int64) + (u.toInt64)) + (v.toInt64))), .second, .unset, .unset, .unset, .unset]) rfl ?_
      show Steps p.tables e below (T281.setTop (mkF m 252 #[.val (.int p1), .val (.int p2), .val (.int p3), .val (.int p4), .val (.int p5), .val (.int n), .val (.int u), .val (.int v), .val (.int w), .val (.int z), .val (.ref bd), .val (.ref bc), .val (.ref bp), .val (.long (((0 : Int64) + (u.toInt64)) + (v.toInt64))), .second, .unset, .unset, .unset, .unset] [])) _
      refine XS.iload X281.here hx rfl (hb hby at_252) rfl ?_
      show Steps p.tables e below (T281.setTop (mkF m 254 #[.val (.int p1), .val (.int p2), .val (.int p3), .val (.int p4), .val (.int p5), .val (.int n), .val (.int u), .val (.int v), .val (.int w), .val (.int z), .val (.ref bd), .val (.ref bc), .val (.ref bp), .val (.long (((0 : Int64) + (u.toInt64)) + (v.toInt64))), .second, .unset, .unset, .unset, .unset] [(.int n)])) _
      refine XS.iconst X281.here hx rfl (hb hby at_254) ?_
      show Steps p.tables e below (T281.setTop (mkF m 255 #[.val (.int p1), .val (.int p2), .val (.int p3), .val (.int p4), .val (.int p5), .val (.int n), .val (.int u), .val (.int v), .val (.int w), .val (.int z), .val (.ref bd), .val (.ref bc), .val (.ref bp), .val (.long (((0 : Int64) + (u.toInt64)) + (v.toInt64))), .second, .unset, .unset, .unset, .unset] [(.int (3 : Int32)), (.int n)])) _
      refine XS.icmpNo X281.here hx rfl (hb hby at_255) rfl (flt (by rw [q]; decide)).1 ?_
      show Steps p.tables e below (T281.setTop (mkF m 258 #[.val (.int p1), .val (.int p2), .val (.int p3), .val (.int p4), .val (.int p5), .val (.int n), .val (.int u), .val (.int v), .val (.int w), .val (.int z), .val (.ref bd), .val (.ref bc), .val (.ref bp), .val (.long (((0 : Int64) + (u.toInt64)) + (v.toInt64))), .second, .unset, .unset, .unset, .unset] [])) _
      refine XS.lload X281.here hx rfl (hb hby at_258) rfl ?_
      show Steps p.tables e below (T281.setTop (mkF m 260 #[.val (.int p1), .val (.int p2), .val (.int p3), .val (.int p4), .val (.int p5), .val (.int n), .val (.int u), .val (.int v), .val (.int w), .val (.int z), .val (.ref bd), .val (.ref bc), .val (.ref bp), .val (.long (((0 : Int64) + (u.toInt64)) + (v.toInt64))), .second, .unset, .unset, .unset, .unset] [(.long (((0 : Int64) + (u.toInt64)) + (v.toInt64)))])) _
      refine XS.iload X281.here hx rfl (hb hby at_260) rfl ?_
      show Steps p.tables e below (T281.setTop (mkF m 262 #[.val (.int p1), .val (.int p2), .val (.int p3), .val (.int p4), .val (.int p5), .val (.int n), .val (.int u), .val (.int v), .val (.int w), .val (.int z), .val (.ref bd), .val (.ref bc), .val (.ref bp), .val (.long (((0 : Int64) + (u.toInt64)) + (v.toInt64))), .second, .unset, .unset, .unset, .unset] [(.int w), (.long (((0 : Int64) + (u.toInt64)) + (v.toInt64)))])) _
      refine XS.i2l X281.here hx rfl (hb hby at_262) rfl ?_
      show Steps p.tables e below (T281.setTop (mkF m 263 #[.val (.int p1), .val (.int p2), .val (.int p3), .val (.int p4), .val (.int p5), .val (.int n), .val (.int u), .val (.int v), .val (.int w), .val (.int z), .val (.ref bd), .val (.ref bc), .val (.ref bp), .val (.long (((0 : Int64) + (u.toInt64)) + (v.toInt64))), .second, .unset, .unset, .unset, .unset] [(.long (w.toInt64)), (.long (((0 : Int64) + (u.toInt64)) + (v.toInt64)))])) _
      refine XS.ladd X281.here hx rfl (hb hby at_263) rfl ?_
      show Steps p.tables e below (T281.setTop (mkF m 264 #[.val (.int p1), .val (.int p2), .val (.int p3), .val (.int p4), .val (.int p5), .val (.int n), .val (.int u), .val (.int v), .val (.int w), .val (.int z), .val (.ref bd), .val (.ref bc), .val (.ref bp), .val (.long (((0 : Int64) + (u.toInt64)) + (v.toInt64))), .second, .unset, .unset, .unset, .unset] [(.long ((((0 : Int64) + (u.toInt64)) + (v.toInt64)) + (w.toInt64)))])) _
      refine XS.lstore X281.here hx rfl (hb hby at_264) rfl (l' := #[.val (.int p1), .val (.int p2), .val (.int p3), .val (.int p4), .val (.int p5), .val (.int n), .val (.int u), .val (.int v), .val (.int w), .val (.int z), .val (.ref bd), .val (.ref bc), .val (.ref bp), .val (.long ((((0 : Int64) + (u.toInt64)) + (v.toInt64)) + (w.toInt64))), .second, .unset, .unset, .unset, .unset]) rfl ?_
      show Steps p.tables e below (T281.setTop (mkF m 266 #[.val (.int p1), .val (.int p2), .val (.int p3), .val (.int p4), .val (.int p5), .val (.int n), .val (.int u), .val (.int v), .val (.int w), .val (.int z), .val (.ref bd), .val (.ref bc), .val (.ref bp), .val (.long ((((0 : Int64) + (u.toInt64)) + (v.toInt64)) + (w.toInt64))), .second, .unset, .unset, .unset, .unset] [])) _
      refine XS.iload X281.here hx rfl (hb hby at_266) rfl ?_
      show Steps p.tables e below (T281.setTop (mkF m 268 #[.val (.int p1), .val (.int p2), .val (.int p3), .val (.int p4), .val (.int p5), .val (.int n), .val (.int u), .val (.int v), .val (.int w), .val (.int z), .val (.ref bd), .val (.ref bc), .val (.ref bp), .val (.long ((((0 : Int64) + (u.toInt64)) + (v.toInt64)) + (w.toInt64))), .second, .unset, .unset, .unset, .unset] [(.int n)])) _
      refine XS.iconst X281.here hx rfl (hb hby at_268) ?_
      show Steps p.tables e below (T281.setTop (mkF m 269 #[.val (.int p1), .val (.int p2), .val (.int p3), .val (.int p4), .val (.int p5), .val (.int n), .val (.int u), .val (.int v), .val (.int w), .val (.int z), .val (.ref bd), .val (.ref bc), .val (.ref bp), .val (.long ((((0 : Int64) + (u.toInt64)) + (v.toInt64)) + (w.toInt64))), .second, .unset, .unset, .unset, .unset] [(.int (4 : Int32)), (.int n)])) _
      refine XS.icmpNo X281.here hx rfl (hb hby at_269) rfl (flt (by rw [q]; decide)).1 ?_
      show Steps p.tables e below (T281.setTop (mkF m 272 #[.val (.int p1), .val (.int p2), .val (.int p3), .val (.int p4), .val (.int p5), .val (.int n), .val (.int u), .val (.int v), .val (.int w), .val (.int z), .val (.ref bd), .val (.ref bc), .val (.ref bp), .val (.long ((((0 : Int64) + (u.toInt64)) + (v.toInt64)) + (w.toInt64))), .second, .unset, .unset, .unset, .unset] [])) _
      refine XS.lload X281.here hx rfl (hb hby at_272) rfl ?_
      show Steps p.tables e below (T281.setTop (mkF m 274 #[.val (.int p1), .val (.int p2), .val (.int p3), .val (.int p4), .val (.int p5), .val (.int n), .val (.int u), .val (.int v), .val (.int w), .val (.int z), .val (.ref bd), .val (.ref bc), .val (.ref bp), .val (.long ((((0 : Int64) + (u.toInt64)) + (v.toInt64)) + (w.toInt64))), .second, .unset, .unset, .unset, .unset] [(.long ((((0 : Int64) + (u.toInt64)) + (v.toInt64)) + (w.toInt64)))])) _
      refine XS.iload X281.here hx rfl (hb hby at_274) rfl ?_
      show Steps p.tables e below (T281.setTop (mkF m 276 #[.val (.int p1), .val (.int p2), .val (.int p3), .val (.int p4), .val (.int p5), .val (.int n), .val (.int u), .val (.int v), .val (.int w), .val (.int z), .val (.ref bd), .val (.ref bc), .val (.ref bp), .val (.long ((((0 : Int64) + (u.toInt64)) + (v.toInt64)) + (w.toInt64))), .second, .unset, .unset, .unset, .unset] [(.int z), (.long ((((0 : Int64) + (u.toInt64)) + (v.toInt64)) + (w.toInt64)))])) _
      refine XS.i2l X281.here hx rfl (hb hby at_276) rfl ?_
      show Steps p.tables e below (T281.setTop (mkF m 277 #[.val (.int p1), .val (.int p2), .val (.int p3), .val (.int p4), .val (.int p5), .val (.int n), .val (.int u), .val (.int v), .val (.int w), .val (.int z), .val (.ref bd), .val (.ref bc), .val (.ref bp), .val (.long ((((0 : Int64) + (u.toInt64)) + (v.toInt64)) + (w.toInt64))), .second, .unset, .unset, .unset, .unset] [(.long (z.toInt64)), (.long ((((0 : Int64) + (u.toInt64)) + (v.toInt64)) + (w.toInt64)))])) _
      refine XS.ladd X281.here hx rfl (hb hby at_277) rfl ?_
      show Steps p.tables e below (T281.setTop (mkF m 278 #[.val (.int p1), .val (.int p2), .val (.int p3), .val (.int p4), .val (.int p5), .val (.int n), .val (.int u), .val (.int v), .val (.int w), .val (.int z), .val (.ref bd), .val (.ref bc), .val (.ref bp), .val (.long ((((0 : Int64) + (u.toInt64)) + (v.toInt64)) + (w.toInt64))), .second, .unset, .unset, .unset, .unset] [(.long (((((0 : Int64) + (u.toInt64)) + (v.toInt64)) + (w.toInt64)) + (z.toInt64)))])) _
      refine XS.lstore X281.here hx rfl (hb hby at_278) rfl (l' := #[.val (.int p1), .val (.int p2), .val (.int p3), .val (.int p4), .val (.int p5), .val (.int n), .val (.int u), .val (.int v), .val (.int w), .val (.int z), .val (.ref bd), .val (.ref bc), .val (.ref bp), .val (.long (((((0 : Int64) + (u.toInt64)) + (v.toInt64)) + (w.toInt64)) + (z.toInt64))), .second, .unset, .unset, .unset, .unset]) rfl ?_
      show Steps p.tables e below (T281.setTop (mkF m 280 #[.val (.int p1), .val (.int p2), .val (.int p3), .val (.int p4), .val (.int p5), .val (.int n), .val (.int u), .val (.int v), .val (.int w), .val (.int z), .val (.ref bd), .val (.ref bc), .val (.ref bp), .val (.long (((((0 : Int64) + (u.toInt64)) + (v.toInt64)) + (w.toInt64)) + (z.toInt64))), .second, .unset, .unset, .unset, .unset] [])) _
      refine XS.aload X281.here hx rfl (hb hby at_280) rfl rfl ?_
      show Steps p.tables e below (T281.setTop (mkF m 282 #[.val (.int p1), .val (.int p2), .val (.int p3), .val (.int p4), .val (.int p5), .val (.int n), .val (.int u), .val (.int v), .val (.int w), .val (.int z), .val (.ref bd), .val (.ref bc), .val (.ref bp), .val (.long (((((0 : Int64) + (u.toInt64)) + (v.toInt64)) + (w.toInt64)) + (z.toInt64))), .second, .unset, .unset, .unset, .unset] [(.ref bp)])) _
      refine st288.trans ?_
      show Steps p.tables e below (T288.setTop (mkF m 285 #[.val (.int p1), .val (.int p2), .val (.int p3), .val (.int p4), .val (.int p5), .val (.int n), .val (.int u), .val (.int v), .val (.int w), .val (.int z), .val (.ref bd), .val (.ref bc), .val (.ref bp), .val (.long (((((0 : Int64) + (u.toInt64)) + (v.toInt64)) + (w.toInt64)) + (z.toInt64))), .second, .unset, .unset, .unset, .unset] [(.long (((((0 : Int64) + (u.toInt64)) + (v.toInt64)) + (w.toInt64)) + (z.toInt64)))])) _
      refine XS.lstore X288.here hx rfl (hb hby at_285) rfl (l' := #[.val (.int p1), .val (.int p2), .val (.int p3), .val (.int p4), .val (.int p5), .val (.int n), .val (.int u), .val (.int v), .val (.int w), .val (.int z), .val (.ref bd), .val (.ref bc), .val (.ref bp), .val (.long (((((0 : Int64) + (u.toInt64)) + (v.toInt64)) + (w.toInt64)) + (z.toInt64))), .second, .val (.long (((((0 : Int64) + (u.toInt64)) + (v.toInt64)) + (w.toInt64)) + (z.toInt64))), .second, .unset, .unset]) rfl ?_
      show Steps p.tables e below (T288.setTop (mkF m 287 #[.val (.int p1), .val (.int p2), .val (.int p3), .val (.int p4), .val (.int p5), .val (.int n), .val (.int u), .val (.int v), .val (.int w), .val (.int z), .val (.ref bd), .val (.ref bc), .val (.ref bp), .val (.long (((((0 : Int64) + (u.toInt64)) + (v.toInt64)) + (w.toInt64)) + (z.toInt64))), .second, .val (.long (((((0 : Int64) + (u.toInt64)) + (v.toInt64)) + (w.toInt64)) + (z.toInt64))), .second, .unset, .unset] [])) _
      refine XS.aload X288.here hx rfl (hb hby at_287) rfl rfl ?_
      show Steps p.tables e below (T288.setTop (mkF m 289 #[.val (.int p1), .val (.int p2), .val (.int p3), .val (.int p4), .val (.int p5), .val (.int n), .val (.int u), .val (.int v), .val (.int w), .val (.int z), .val (.ref bd), .val (.ref bc), .val (.ref bp), .val (.long (((((0 : Int64) + (u.toInt64)) + (v.toInt64)) + (w.toInt64)) + (z.toInt64))), .second, .val (.long (((((0 : Int64) + (u.toInt64)) + (v.toInt64)) + (w.toInt64)) + (z.toInt64))), .second, .unset, .unset] [(.ref bp)])) _
      refine st289.trans ?_
      show Steps p.tables e below (T289.setTop (mkF m 292 #[.val (.int p1), .val (.int p2), .val (.int p3), .val (.int p4), .val (.int p5), .val (.int n), .val (.int u), .val (.int v), .val (.int w), .val (.int z), .val (.ref bd), .val (.ref bc), .val (.ref bp), .val (.long (((((0 : Int64) + (u.toInt64)) + (v.toInt64)) + (w.toInt64)) + (z.toInt64))), .second, .val (.long (((((0 : Int64) + (u.toInt64)) + (v.toInt64)) + (w.toInt64)) + (z.toInt64))), .second, .unset, .unset] [(.long (((((0 : Int64) + (u.toInt64)) + (v.toInt64)) + (w.toInt64)) + (z.toInt64)))])) _
      refine XS.lstore X289.here hx rfl (hb hby at_292) rfl (l' := #[.val (.int p1), .val (.int p2), .val (.int p3), .val (.int p4), .val (.int p5), .val (.int n), .val (.int u), .val (.int v), .val (.int w), .val (.int z), .val (.ref bd), .val (.ref bc), .val (.ref bp), .val (.long (((((0 : Int64) + (u.toInt64)) + (v.toInt64)) + (w.toInt64)) + (z.toInt64))), .second, .val (.long (((((0 : Int64) + (u.toInt64)) + (v.toInt64)) + (w.toInt64)) + (z.toInt64))), .second, .val (.long (((((0 : Int64) + (u.toInt64)) + (v.toInt64)) + (w.toInt64)) + (z.toInt64))), .second]) rfl ?_
      show Steps p.tables e below (T289.setTop (mkF m 294 #[.val (.int p1), .val (.int p2), .val (.int p3), .val (.int p4), .val (.int p5), .val (.int n), .val (.int u), .val (.int v), .val (.int w), .val (.int z), .val (.ref bd), .val (.ref bc), .val (.ref bp), .val (.long (((((0 : Int64) + (u.toInt64)) + (v.toInt64)) + (w.toInt64)) + (z.toInt64))), .second, .val (.long (((((0 : Int64) + (u.toInt64)) + (v.toInt64)) + (w.toInt64)) + (z.toInt64))), .second, .val (.long (((((0 : Int64) + (u.toInt64)) + (v.toInt64)) + (w.toInt64)) + (z.toInt64))), .second] [])) _
      refine XS.lload X289.here hx rfl (hb hby at_294) rfl ?_
      show Steps p.tables e below (T289.setTop (mkF m 296 #[.val (.int p1), .val (.int p2), .val (.int p3), .val (.int p4), .val (.int p5), .val (.int n), .val (.int u), .val (.int v), .val (.int w), .val (.int z), .val (.ref bd), .val (.ref bc), .val (.ref bp), .val (.long (((((0 : Int64) + (u.toInt64)) + (v.toInt64)) + (w.toInt64)) + (z.toInt64))), .second, .val (.long (((((0 : Int64) + (u.toInt64)) + (v.toInt64)) + (w.toInt64)) + (z.toInt64))), .second, .val (.long (((((0 : Int64) + (u.toInt64)) + (v.toInt64)) + (w.toInt64)) + (z.toInt64))), .second] [(.long (((((0 : Int64) + (u.toInt64)) + (v.toInt64)) + (w.toInt64)) + (z.toInt64)))])) _
      refine XS.lload X289.here hx rfl (hb hby at_296) rfl ?_
      show Steps p.tables e below (T289.setTop (mkF m 298 #[.val (.int p1), .val (.int p2), .val (.int p3), .val (.int p4), .val (.int p5), .val (.int n), .val (.int u), .val (.int v), .val (.int w), .val (.int z), .val (.ref bd), .val (.ref bc), .val (.ref bp), .val (.long (((((0 : Int64) + (u.toInt64)) + (v.toInt64)) + (w.toInt64)) + (z.toInt64))), .second, .val (.long (((((0 : Int64) + (u.toInt64)) + (v.toInt64)) + (w.toInt64)) + (z.toInt64))), .second, .val (.long (((((0 : Int64) + (u.toInt64)) + (v.toInt64)) + (w.toInt64)) + (z.toInt64))), .second] [(.long (((((0 : Int64) + (u.toInt64)) + (v.toInt64)) + (w.toInt64)) + (z.toInt64))), (.long (((((0 : Int64) + (u.toInt64)) + (v.toInt64)) + (w.toInt64)) + (z.toInt64)))])) _
      refine XS.lcmp X289.here hx rfl (hb hby at_298) rfl ?_
      show Steps p.tables e below (T289.setTop (mkF m 299 #[.val (.int p1), .val (.int p2), .val (.int p3), .val (.int p4), .val (.int p5), .val (.int n), .val (.int u), .val (.int v), .val (.int w), .val (.int z), .val (.ref bd), .val (.ref bc), .val (.ref bp), .val (.long (((((0 : Int64) + (u.toInt64)) + (v.toInt64)) + (w.toInt64)) + (z.toInt64))), .second, .val (.long (((((0 : Int64) + (u.toInt64)) + (v.toInt64)) + (w.toInt64)) + (z.toInt64))), .second, .val (.long (((((0 : Int64) + (u.toInt64)) + (v.toInt64)) + (w.toInt64)) + (z.toInt64))), .second] [(.int (lcmpW (((((0 : Int64) + (u.toInt64)) + (v.toInt64)) + (w.toInt64)) + (z.toInt64)) (((((0 : Int64) + (u.toInt64)) + (v.toInt64)) + (w.toInt64)) + (z.toInt64))))])) _
      refine XS.ifNo X289.here hx rfl (hb hby at_299) rfl ((if0 _ _).trans (teq ((lw_eq _ _).mpr rfl)).2) ?_
      show Steps p.tables e below (T289.setTop (mkF m 302 #[.val (.int p1), .val (.int p2), .val (.int p3), .val (.int p4), .val (.int p5), .val (.int n), .val (.int u), .val (.int v), .val (.int w), .val (.int z), .val (.ref bd), .val (.ref bc), .val (.ref bp), .val (.long (((((0 : Int64) + (u.toInt64)) + (v.toInt64)) + (w.toInt64)) + (z.toInt64))), .second, .val (.long (((((0 : Int64) + (u.toInt64)) + (v.toInt64)) + (w.toInt64)) + (z.toInt64))), .second, .val (.long (((((0 : Int64) + (u.toInt64)) + (v.toInt64)) + (w.toInt64)) + (z.toInt64))), .second] [])) _
      refine XS.lload X289.here hx rfl (hb hby at_302) rfl ?_
      show Steps p.tables e below (T289.setTop (mkF m 304 #[.val (.int p1), .val (.int p2), .val (.int p3), .val (.int p4), .val (.int p5), .val (.int n), .val (.int u), .val (.int v), .val (.int w), .val (.int z), .val (.ref bd), .val (.ref bc), .val (.ref bp), .val (.long (((((0 : Int64) + (u.toInt64)) + (v.toInt64)) + (w.toInt64)) + (z.toInt64))), .second, .val (.long (((((0 : Int64) + (u.toInt64)) + (v.toInt64)) + (w.toInt64)) + (z.toInt64))), .second, .val (.long (((((0 : Int64) + (u.toInt64)) + (v.toInt64)) + (w.toInt64)) + (z.toInt64))), .second] [(.long (((((0 : Int64) + (u.toInt64)) + (v.toInt64)) + (w.toInt64)) + (z.toInt64)))])) _
      refine XS.lload X289.here hx rfl (hb hby at_304) rfl ?_
      show Steps p.tables e below (T289.setTop (mkF m 306 #[.val (.int p1), .val (.int p2), .val (.int p3), .val (.int p4), .val (.int p5), .val (.int n), .val (.int u), .val (.int v), .val (.int w), .val (.int z), .val (.ref bd), .val (.ref bc), .val (.ref bp), .val (.long (((((0 : Int64) + (u.toInt64)) + (v.toInt64)) + (w.toInt64)) + (z.toInt64))), .second, .val (.long (((((0 : Int64) + (u.toInt64)) + (v.toInt64)) + (w.toInt64)) + (z.toInt64))), .second, .val (.long (((((0 : Int64) + (u.toInt64)) + (v.toInt64)) + (w.toInt64)) + (z.toInt64))), .second] [(.long (((((0 : Int64) + (u.toInt64)) + (v.toInt64)) + (w.toInt64)) + (z.toInt64))), (.long (((((0 : Int64) + (u.toInt64)) + (v.toInt64)) + (w.toInt64)) + (z.toInt64)))])) _
      refine XS.lcmp X289.here hx rfl (hb hby at_306) rfl ?_
      show Steps p.tables e below (T289.setTop (mkF m 307 #[.val (.int p1), .val (.int p2), .val (.int p3), .val (.int p4), .val (.int p5), .val (.int n), .val (.int u), .val (.int v), .val (.int w), .val (.int z), .val (.ref bd), .val (.ref bc), .val (.ref bp), .val (.long (((((0 : Int64) + (u.toInt64)) + (v.toInt64)) + (w.toInt64)) + (z.toInt64))), .second, .val (.long (((((0 : Int64) + (u.toInt64)) + (v.toInt64)) + (w.toInt64)) + (z.toInt64))), .second, .val (.long (((((0 : Int64) + (u.toInt64)) + (v.toInt64)) + (w.toInt64)) + (z.toInt64))), .second] [(.int (lcmpW (((((0 : Int64) + (u.toInt64)) + (v.toInt64)) + (w.toInt64)) + (z.toInt64)) (((((0 : Int64) + (u.toInt64)) + (v.toInt64)) + (w.toInt64)) + (z.toInt64))))])) _
      refine XS.ifNo X289.here hx rfl (hb hby at_307) rfl ((if0 _ _).trans (teq ((lw_eq _ _).mpr rfl)).2) ?_
      show Steps p.tables e below (T289.setTop (mkF m 310 #[.val (.int p1), .val (.int p2), .val (.int p3), .val (.int p4), .val (.int p5), .val (.int n), .val (.int u), .val (.int v), .val (.int w), .val (.int z), .val (.ref bd), .val (.ref bc), .val (.ref bp), .val (.long (((((0 : Int64) + (u.toInt64)) + (v.toInt64)) + (w.toInt64)) + (z.toInt64))), .second, .val (.long (((((0 : Int64) + (u.toInt64)) + (v.toInt64)) + (w.toInt64)) + (z.toInt64))), .second, .val (.long (((((0 : Int64) + (u.toInt64)) + (v.toInt64)) + (w.toInt64)) + (z.toInt64))), .second] [])) _
      refine XS.iconst X289.here hx rfl (hb hby at_310) ?_
      show Steps p.tables e below (T289.setTop (mkF m 311 #[.val (.int p1), .val (.int p2), .val (.int p3), .val (.int p4), .val (.int p5), .val (.int n), .val (.int u), .val (.int v), .val (.int w), .val (.int z), .val (.ref bd), .val (.ref bc), .val (.ref bp), .val (.long (((((0 : Int64) + (u.toInt64)) + (v.toInt64)) + (w.toInt64)) + (z.toInt64))), .second, .val (.long (((((0 : Int64) + (u.toInt64)) + (v.toInt64)) + (w.toInt64)) + (z.toInt64))), .second, .val (.long (((((0 : Int64) + (u.toInt64)) + (v.toInt64)) + (w.toInt64)) + (z.toInt64))), .second] [(.int (1 : Int32))])) _
      refine XS.goto X289.here hx rfl (pc0 := 311) (pc' := 315) rfl (hb hby at_311) (by decide) (by decide) ?_
      exact k_)
    obtain ⟨fs, hr, hrun, hended, hW, hsame⟩ := X289.leave (v := some (.int (1 : Int32))) (fun h => by rw [Bd.returns] at h; cases h)
    refine ⟨_, _, pre290 _ ?_, hrun, hended, _, _, rfl, ?_, ⟨_, rfl⟩, hW, hsame.mono (by decide) (by decide)⟩
    · show Steps p.tables e below (T289.setTop (mkF m 315 #[.val (.int p1), .val (.int p2), .val (.int p3), .val (.int p4), .val (.int p5), .val (.int n), .val (.int u), .val (.int v), .val (.int w), .val (.int z), .val (.ref bd), .val (.ref bc), .val (.ref bp), .val (.long (((((0 : Int64) + (u.toInt64)) + (v.toInt64)) + (w.toInt64)) + (z.toInt64))), .second, .val (.long (((((0 : Int64) + (u.toInt64)) + (v.toInt64)) + (w.toInt64)) + (z.toInt64))), .second, .val (.long (((((0 : Int64) + (u.toInt64)) + (v.toInt64)) + (w.toInt64)) + (z.toInt64))), .second] [(.int (1 : Int32))])) _
      exact retN X289 hx (t := .boolean) Bd.returns (by simp) (hb hby at_315) hr
    · show Qrm0 Z p1 p2 p3 p4 p5 h0 n0 _ T289.heap _
      rw [e289]
      exact ⟨rfl, N289⟩
set_option maxRecDepth 65536 in
set_option maxHeartbeats 40000000 in
theorem comes_1 {Post : Tables → Env → Array Value → State → Outcome → State → Prop} (hpost : ∀ tb e args s v u, (limb_1_1.after args s (.returned v) u = true ∧ limb_1_2.after args s (.returned v) u = true ∧ True) → FrameEnd s (.returned v) u (Jvm.fieldLocs frame_1_writes args s ++ Jvm.arrayLocs frame_1_arrays args s ++ Jvm.staticLocs frame_1_statics s) 16 128 → Post tb e args s (.returned v) u) :
    ArmFor flags0 classFile x code maxLocals ret World_1 tables_1 room_1 Calls_1 rest_1 Pre_1 Post := by
  intro l hfl _ _ p e ha hc hk s m args below hf hA hF happ hP
  obtain ⟨hcalls, hrest, hpre⟩ := hP
  obtain ⟨-, -, -, hnamed, -, -, -, hat⟩ := (Spec.applies_iff hf).mp happ
  obtain ⟨hg, hn⟩ := and_e (Cond.before_iff.mp (show (Jvm.Cond.and given_1 narrow_1).before args s = true from hpre))
  obtain ⟨gg1, gg2⟩ := and_e hg
  obtain ⟨gg3, gg4⟩ := and_e gg2
  obtain ⟨gg5, gg6⟩ := and_e gg4
  obtain ⟨gg7, gg8⟩ := and_e gg6
  obtain ⟨gg9, gg10⟩ := and_e gg8
  obtain ⟨w0, w1, w2, w3, w4, rfl⟩ : ∃ w0 w1 w2 w3 w4 : Value, args = #[w0, w1, w2, w3, w4] := by
    have hs : args.size = 5 := by simpa [Cond.value, given_1] using gg1
    obtain ⟨L⟩ := args
    match L, hs with
    | [w0, w1, w2, w3, w4], _ => exact ⟨w0, w1, w2, w3, w4, rfl⟩
  have hw := fun d (hd : d ∈ tables_1) => atoms_spec (ws := Jvm.Cond.code x code maxLocals ret :: tables_1) hat d (List.mem_cons_of_mem _ hd)
  have hfit : Fit s := fun {y c} hc i hi => by
    obtain ⟨ha, rfl⟩ := Array.getElem?_eq_some_iff.mp hc
    have q := List.all_eq_true.mp ((Array.all_eq_true_iff_forall_mem.mp hF) _ (Array.getElem_mem ha)) i (List.mem_range.mpr hi)
    simpa [Array.getElem?_eq_getElem hi] using q
  obtain ⟨i0, ei0⟩ := is_v gg3
  obtain rfl : w0 = (.int i0) := Option.some.inj ei0
  obtain ⟨i1, ei1⟩ := is_v gg5
  obtain rfl : w1 = (.int i1) := Option.some.inj ei1
  obtain ⟨i2, ei2⟩ := is_v gg7
  obtain rfl : w2 = (.int i2) := Option.some.inj ei2
  obtain ⟨i3, ei3⟩ := is_v gg9
  obtain rfl : w3 = (.int i3) := Option.some.inj ei3
  obtain ⟨i4, ei4⟩ := is_v gg10
  obtain rfl : w4 = (.int i4) := Option.some.inj ei4
  obtain ⟨n, o, h1, h2, h3, _, L, rfl, ⟨rfl, N⟩, hq⟩ := rm0 l s _ hw tables_1 i0 i1 i2 i3 i4 s.heap s.heap.size (Nat.le_refl _)  p e ha hc hk s m _ below hf ((Spec.applies_iff_loose hf).mp happ).1 ⟨rfl, State.Warmed39.refl s, rfl⟩ trivial
  refine ⟨n, _, h1, h2, h3, hpost _ _ _ _ _ _ ⟨Cond.after_iff.mpr rfl, Cond.after_iff.mpr (eq_i res_at (Term.int_eval (1)) rfl), trivial⟩ ⟨hq.1, hq.2.1, (hq.2.2.sift fun y hy => Or.inr (N y hy)).mono (by decide) (by decide)⟩⟩
theorem main_1_1 : Claimed_1_1 := comes_1 fun _ _ _ _ _ _ h hF => ⟨h.1, hF⟩
theorem main_1_2 : Claimed_1_2 := comes_1 fun _ _ _ _ _ _ h hF => ⟨h.2.1, hF⟩
end Jvm.Pilot.@@N@@
namespace Jvm.Pilot.@@N@@
open Jvm Jvm.ClassFile Sem Op Lib Jvm.Free Jvm.Stand Jvm.Pilot.@@N@@.Jvm.D
/-! MADE BY PROGRAM (witnessworld.py) out of the Statement's table words and the real class files: 9 classes; the members and pool entries that the words name. The judged class is class 1, her method 1. -/
namespace start1
open Jvm.ClassFile
def u (s : String) : CpInfo := .utf8 (stringToUtf16 s)
/-- a pool by its gaps: so many unusable entries, then the entry; so many at the end -/
def gap : Nat → List CpInfo → List CpInfo
  | 0, r => r
  | n + 1, r => .unusable :: gap n r
def poolList (es : List (Nat × CpInfo)) (last : Nat) : List CpInfo := es.foldr (fun e r => gap e.1 (e.2 :: r)) (gap last [])
def pool (es : List (Nat × CpInfo)) (last : Nat) : Array CpInfo := ⟨poolList es last⟩
def fileOf (pool : Array CpInfo) (this : Nat) (attrs : Array Attribute := #[]) (ms : Array MethodInfo := #[]) (fl : Nat := 33) (sup : Nat := 0) (ifs : Array Nat := #[]) (fds : Array FieldInfo := #[]) : ClassFile where
  minorVersion := 0
  majorVersion := 65
  constantPool := pool
  accessFlags := fl
  thisClass := this
  superClass := sup
  interfaces := ifs
  fields := fds
  methods := ms
  attributes := attrs
def plain (name : String) (sup : Option ClassId) : Class where
  name := name
  kind := .ordinary
  loader := none
  accessFlags := 33
  super := sup
  interfaces := #[]
  cf := none
  fields := #[]
  methods := #[]
  instanceTypes := #[]
  staticTypes := #[]
  resolved := #[]
  callSites := []
  init := .initialized
  statics := none
  mirror := none

def pool0 : Array CpInfo := pool [(5, u "<init>"), (0, u "()V"), (1, .class_ 10), (1, u "java/lang/Object")] 113

def k0c0 : Code := { maxStack := 0, maxLocals := 1, code := object_method_1_code, exceptionTable := #[], attributes := #[] }
def k0m0 : Method := { name := "<init>", desc := "()V", sig := { parameters := [], returnType := none }, accessFlags := 1, code := some k0c0 }
/-- java/lang/Object -/
def k0 : Class := { plain "java/lang/Object" none with
  accessFlags := 33
  interfaces := #[]
  cf := some (fileOf pool0 8 #[] #[{ accessFlags := 1, nameIndex := 5, descriptorIndex := 6, attributes := #[] }] 33 0 #[] #[])
  fields := #[]
  methods := #[k0m0]
  instanceTypes := #[]
  staticTypes := #[]
  resolved := Array.replicate 124 none
  statics := none }

def pool1 : Array CpInfo := pool [(2, .class_ 4), (1, u "java/lang/Object"), (0, u "<init>"), (0, u "()V"), (0, .integer 2147483647), (0, .methodref 9 10), (0, .class_ 11), (0, .nameAndType 12 13), (0, u "com/example/cranfield/cranfield/index/PostingsCollectionFrequencyPinLaw"), (0, u "pos"), (0, u "(I)I"), (0, .class_ 15), (0, u "com/example/cranfield/cranfield/index/Postings"), (0, .methodref 14 17), (0, .nameAndType 5 18), (0, u "([I[I)V"), (0, .methodref 14 20), (0, .nameAndType 21 22), (0, u "collectionFrequency"), (0, u "()J"), (2, u "law"), (0, u "(IIIII)Z")] 5

def k1m0 : Method := { name := "<init>", desc := "()V", sig := { parameters := [], returnType := none }, accessFlags := 1, code := none }
def k1c1 : Code := { maxStack := 4, maxLocals := 19, code := code, exceptionTable := #[], attributes := #[] }
def k1m1 : Method := { name := "law", desc := "(IIIII)Z", sig := { parameters := [.int, .int, .int, .int, .int], returnType := some .boolean }, accessFlags := 9, code := some k1c1 }
def k1c2 : Code := { maxStack := 2, maxLocals := 2, code := method_3_code, exceptionTable := #[], attributes := #[] }
def k1m2 : Method := { name := "pos", desc := "(I)I", sig := { parameters := [.int], returnType := some .int }, accessFlags := 10, code := some k1c2 }
/-- com/example/cranfield/cranfield/index/PostingsCollectionFrequencyPinLaw -/
def k1 : Class := { plain "com/example/cranfield/cranfield/index/PostingsCollectionFrequencyPinLaw" (some 0) with
  accessFlags := 49
  interfaces := #[]
  cf := some (fileOf pool1 9 #[] #[{ accessFlags := 1, nameIndex := 5, descriptorIndex := 6, attributes := #[] }, { accessFlags := 9, nameIndex := 25, descriptorIndex := 26, attributes := #[] }, { accessFlags := 10, nameIndex := 12, descriptorIndex := 13, attributes := #[] }] 49 2 #[] #[])
  fields := #[]
  methods := #[k1m0, k1m1, k1m2]
  instanceTypes := #[]
  staticTypes := #[]
  resolved := Array.replicate 32 none
  statics := none }

def pool2 : Array CpInfo := pool [(1, .methodref 2 3), (0, .class_ 4), (0, .nameAndType 5 6), (0, u "java/lang/Object"), (0, u "<init>"), (0, u "()V"), (9, .fieldref 17 18), (0, .class_ 19), (0, .nameAndType 20 21), (0, u "com/example/cranfield/cranfield/index/Postings"), (0, u "documents"), (0, u "[I"), (0, .fieldref 17 23), (0, .nameAndType 24 21), (0, u "counts"), (2, u "([I[I)V"), (2, u "EMPTY"), (0, u "Lcom/example/cranfield/cranfield/index/Postings;"), (6, u "collectionFrequency"), (0, u "()J")] 21

def k2c0 : Code := { maxStack := 4, maxLocals := 3, code := prog_31_method_1_code, exceptionTable := #[], attributes := #[] }
def k2m0 : Method := { name := "<init>", desc := "([I[I)V", sig := { parameters := [(.array .int), (.array .int)], returnType := none }, accessFlags := 1, code := some k2c0 }
def k2c1 : Code := { maxStack := 4, maxLocals := 7, code := prog_31_method_3_code, exceptionTable := #[], attributes := #[] }
def k2m1 : Method := { name := "collectionFrequency", desc := "()J", sig := { parameters := [], returnType := some .long }, accessFlags := 1, code := some k2c1 }
/-- com/example/cranfield/cranfield/index/Postings -/
def k2 : Class := { plain "com/example/cranfield/cranfield/index/Postings" (some 0) with
  accessFlags := 33
  interfaces := #[]
  cf := some (fileOf pool2 17 #[] #[{ accessFlags := 1, nameIndex := 5, descriptorIndex := 27, attributes := #[] }, { accessFlags := 1, nameIndex := 38, descriptorIndex := 39, attributes := #[] }] 33 2 #[] #[{ accessFlags := 24, nameIndex := 30, descriptorIndex := 31, attributes := #[] }, { accessFlags := 18, nameIndex := 20, descriptorIndex := 21, attributes := #[] }, { accessFlags := 18, nameIndex := 24, descriptorIndex := 21, attributes := #[] }])
  fields := #[{ name := "EMPTY", type := (.object "com/example/cranfield/cranfield/index/Postings"), accessFlags := 24, slot := 0, constantValue := 0 }, { name := "documents", type := (.array .int), accessFlags := 18, slot := 0, constantValue := 0 }, { name := "counts", type := (.array .int), accessFlags := 18, slot := 1, constantValue := 0 }]
  methods := #[k2m0, k2m1]
  instanceTypes := #[(.array .int), (.array .int)]
  staticTypes := #[(.object "com/example/cranfield/cranfield/index/Postings")]
  resolved := Array.replicate 61 none
  statics := none }

def pool3 : Array CpInfo := pool [(1, u "java/lang/Cloneable"), (0, .class_ 1), (0, u "java/lang/Object"), (0, .class_ 3)] 3

/-- java/lang/Cloneable -/
def k3 : Class := { plain "java/lang/Cloneable" (some 0) with
  accessFlags := 1537
  interfaces := #[]
  cf := some (fileOf pool3 2 #[] #[] 1537 4 #[] #[])
  fields := #[]
  methods := #[]
  instanceTypes := #[]
  staticTypes := #[]
  resolved := Array.replicate 8 none
  statics := none }

def pool4 : Array CpInfo := pool [(1, u "java/io/Serializable"), (0, .class_ 1), (0, u "java/lang/Object"), (0, .class_ 3)] 3

/-- java/io/Serializable -/
def k4 : Class := { plain "java/io/Serializable" (some 0) with
  accessFlags := 1537
  interfaces := #[]
  cf := some (fileOf pool4 2 #[] #[] 1537 4 #[] #[])
  fields := #[]
  methods := #[]
  instanceTypes := #[]
  staticTypes := #[]
  resolved := Array.replicate 8 none
  statics := none }

/-- the primitive byte -/
def k5 : Class := { plain "byte" none with kind := .primitive 'B', accessFlags := 0x411 }
/-- [B -/
def k6 : Class := { plain "[B" (some 0) with kind := .array 5 .byte, interfaces := #[3, 4], accessFlags := 1041 }

/-- the primitive int -/
def k7 : Class := { plain "int" none with kind := .primitive 'I', accessFlags := 0x411 }
/-- [I -/
def k8 : Class := { plain "[I" (some 0) with kind := .array 7 .int, interfaces := #[3, 4], accessFlags := 1041 }

def heap : Heap := #[]
def classes : Array Class := #[k0, k1, k2, k3, k4, k5, k6, k7, k8]
def interned : List (Array UInt16 × Addr) := []
def slotsUsed : Nat := 0
def theMethod : MethodId := ⟨1, 1⟩
def args0 : Array Value := #[.int 3, .int 5, .int 6, .int 7, .int 8]
def aboutOver (below : List Frame) : State where
  vm := { classes := classes, interned := interned.toArray }
  heap := heap
  slotsUsed := slotsUsed
  threads := #[{ frames := .invoking theMethod args0 :: below }]
def below0 : List Frame := [.native { method := ⟨0, 0⟩, args := #[] }]
def about1 : State := aboutOver below0
def p0 : Program := .bare "" "" ""
def e0 : Env := launch0.env 0 0 0
theorem w_frames : about1.frames = Frame.invoking theMethod args0 :: below0 := rfl
set_option maxRecDepth 65536 in
theorem w_args : argsFit about1.vm theMethod args0 = true := by decide +kernel
set_option maxRecDepth 65536 in
theorem w_heap : heapFits about1 = true := by decide +kernel
set_option maxRecDepth 65536 in
theorem w_runnable : about1.curStatus? = some .runnable := by decide +kernel
set_option maxRecDepth 65536 in
theorem w_alone : about1.alone = true := by decide +kernel
set_option maxRecDepth 65536 in
theorem w_named : about1.methodNamed? x = some theMethod := by decide +kernel
set_option maxRecDepth 65536 in
theorem w_hears : about1.hears theMethod below0 = true := by decide +kernel
set_option maxRecDepth 65536 in
theorem w_ripe : about1.ripe theMethod args0 below0 = true := by decide +kernel
theorem w_running : about1.status = .running := rfl
set_option maxRecDepth 65536 in
theorem w_room : about1.hasRoom e0.platform room_1 = true :=
  launch0.hasRoom_least _ room_1 (by decide +kernel) (by decide +kernel) (by decide +kernel) (by decide +kernel) (by decide +kernel) (by decide +kernel)
theorem allAtoms_all (ts : List Jvm.Cond) (a : Array Jvm.Value) (st : Jvm.State) : (allAtoms ts).before a st = ts.all (fun c => c.before a st) := by
  induction ts with
  | nil => rfl
  | cons c t ih =>
    show (Jvm.Cond.and c (allAtoms t)).before a st = _
    rw [Jvm.Cond.before_and, ih, List.all_cons]
def words1 : List Jvm.Cond := Jvm.Cond.code x code maxLocals ret :: tables_1
/-- a 'code' word, met by the world's own term for the bytes: nothing is compared byte by byte -/
theorem code_word {y : MethodName} {bytes : ByteArray} {mx : Nat} {rt : Option FieldType} {a : Array Value} {s : State} {m : MethodId} {meth : Method} {c : Code} (h1 : s.methodNamed? y = some m) (h2 : s.vm.method? m = some meth) (h3 : meth.code = some c) (h4 : c.code = bytes)
    (h5 : (c.maxLocals == mx && c.exceptionTable.isEmpty && decide (c.maxStack ≤ mostOperands) && decide (meth.sig.returnType = rt) && !meth.locks && decide (parseMethodDescriptor y.desc = some meth.sig)) = true) : (Jvm.Cond.code y bytes mx rt).before a s = true := by
  simp only [Bool.and_eq_true, beq_iff_eq, Bool.not_eq_true', decide_eq_true_eq] at h5
  obtain ⟨⟨⟨⟨⟨g1, g2⟩, g3⟩, g4⟩, g5⟩, g6⟩ := h5
  simp [Cond.before, Cond.holds, Cond.value, h1, h2, h3, h4, g1, g2, g3, g4, g5, g6]
def isCode : Jvm.Cond → Bool
  | .code _ _ _ _ => true
  | _ => false
theorem all_split {L : List Jvm.Cond} {P : Jvm.Cond → Bool} (h1 : L.all (fun c => isCode c || P c) = true) (h2 : ∀ c ∈ L.filter isCode, P c = true) : L.all P = true := by
  refine List.all_eq_true.mpr fun c hc => ?_
  have h := List.all_eq_true.mp h1 c hc
  rcases Bool.eq_false_or_eq_true (isCode c) with hi | hi
  · exact h2 c (List.mem_filter.mpr ⟨hc, hi⟩)
  · simpa [hi] using h
set_option maxRecDepth 65536 in
theorem w_c0 : (Jvm.Cond.code x code maxLocals ret).before args0 about1 = true := code_word (m := ⟨1, 1⟩) (meth := k1m1) (c := k1c1) (by decide +kernel) rfl rfl rfl (by decide +kernel)
set_option maxRecDepth 65536 in
theorem w_c1 : (Jvm.Cond.code ({ cls := "com/example/cranfield/cranfield/index/PostingsCollectionFrequencyPinLaw", name := "pos", desc := "(I)I" } : Jvm.MethodName) method_3_code (2 : Nat) (Option.some Jvm.ClassFile.FieldType.int)).before args0 about1 = true := code_word (m := ⟨1, 2⟩) (meth := k1m2) (c := k1c2) (by decide +kernel) rfl rfl rfl (by decide +kernel)
set_option maxRecDepth 65536 in
theorem w_c2 : (Jvm.Cond.code ({ cls := "com/example/cranfield/cranfield/index/Postings", name := "<init>", desc := "([I[I)V" } : Jvm.MethodName) prog_31_method_1_code (3 : Nat) (Option.none : Option Jvm.ClassFile.FieldType)).before args0 about1 = true := code_word (m := ⟨2, 0⟩) (meth := k2m0) (c := k2c0) (by decide +kernel) rfl rfl rfl (by decide +kernel)
set_option maxRecDepth 65536 in
theorem w_c3 : (Jvm.Cond.code ({ cls := "java/lang/Object", name := "<init>", desc := "()V" } : Jvm.MethodName) object_method_1_code (1 : Nat) (Option.none : Option Jvm.ClassFile.FieldType)).before args0 about1 = true := code_word (m := ⟨0, 0⟩) (meth := k0m0) (c := k0c0) (by decide +kernel) rfl rfl rfl (by decide +kernel)
set_option maxRecDepth 65536 in
theorem w_c4 : (Jvm.Cond.code ({ cls := "com/example/cranfield/cranfield/index/Postings", name := "collectionFrequency", desc := "()J" } : Jvm.MethodName) prog_31_method_3_code (7 : Nat) (Option.some Jvm.ClassFile.FieldType.long)).before args0 about1 = true := code_word (m := ⟨2, 1⟩) (meth := k2m1) (c := k2c1) (by decide +kernel) rfl rfl rfl (by decide +kernel)
def codes1 : List Jvm.Cond := [Jvm.Cond.code x code maxLocals ret, Jvm.Cond.code ({ cls := "com/example/cranfield/cranfield/index/PostingsCollectionFrequencyPinLaw", name := "pos", desc := "(I)I" } : Jvm.MethodName) method_3_code (2 : Nat) (Option.some Jvm.ClassFile.FieldType.int), Jvm.Cond.code ({ cls := "com/example/cranfield/cranfield/index/Postings", name := "<init>", desc := "([I[I)V" } : Jvm.MethodName) prog_31_method_1_code (3 : Nat) (Option.none : Option Jvm.ClassFile.FieldType), Jvm.Cond.code ({ cls := "java/lang/Object", name := "<init>", desc := "()V" } : Jvm.MethodName) object_method_1_code (1 : Nat) (Option.none : Option Jvm.ClassFile.FieldType), Jvm.Cond.code ({ cls := "com/example/cranfield/cranfield/index/Postings", name := "collectionFrequency", desc := "()J" } : Jvm.MethodName) prog_31_method_3_code (7 : Nat) (Option.some Jvm.ClassFile.FieldType.long)]
set_option maxRecDepth 65536 in
theorem codes_eq : words1.filter isCode = codes1 := rfl
theorem w_codes : ∀ c ∈ words1.filter isCode, c.before args0 about1 = true := by
  rw [codes_eq]
  intro c hc
  simp only [codes1, List.mem_cons, List.not_mem_nil, or_false] at hc
  rcases hc with rfl | rfl | rfl | rfl | rfl
  · exact w_c0
  · exact w_c1
  · exact w_c2
  · exact w_c3
  · exact w_c4
set_option maxRecDepth 65536 in
theorem w_t1 : (words1.take 24).all (fun c => isCode c || c.before args0 about1) = true := by decide +kernel
set_option maxRecDepth 65536 in
theorem w_t2 : (words1.drop 24).all (fun c => isCode c || c.before args0 about1) = true := by decide +kernel
theorem w_tables : (allAtoms (Jvm.Cond.code x code maxLocals ret :: tables_1)).before args0 about1 = true := by
  rw [allAtoms_all]
  show words1.all (fun c => c.before args0 about1) = true
  refine all_split ?_ w_codes
  rw [← List.take_append_drop 24 words1, List.all_append, w_t1, w_t2]
  rfl
set_option maxRecDepth 65536 in
theorem w_case : (Jvm.Cond.and given_1 narrow_1).before args0 about1 = true := by decide +kernel
theorem w_applies : (headSpec (Jvm.Cond.code x code maxLocals ret :: tables_1) room_1).applies x e0.platform about1 = true :=
  (Spec.applies_iff w_frames).mpr ⟨w_running, w_runnable, w_alone, w_named, w_hears, w_ripe, w_room, w_tables⟩
theorem atStart : AtStart classFile x code maxLocals ret World_1 tables_1 room_1 Calls_1 rest_1 Pre_1 launch0 p0 e0 about1 theMethod args0 below0 :=
  ⟨lists_1, trivial, launch0.admits_env _ _ _, launch0.least_env, fairChoices_fair.cas, fairChoices_fair.clock, w_frames, w_args, w_heap, w_applies, trivial, trivial, w_case⟩
end start1
theorem witness_1 : WitnessClaimed_1 := ⟨start1.p0, start1.e0, start1.about1, start1.theMethod, start1.args0, start1.below0, start1.atStart⟩
end Jvm.Pilot.@@N@@
