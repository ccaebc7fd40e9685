import JvmDerived
import JvmDerived.Pilot.@@N@@Statement
import JvmDerived.Pilot.@@N@@Code
set_option linter.unusedVariables false
set_option linter.unusedSimpArgs false
namespace Jvm.RoadKit
open Sem ClassFile Op Lib Jvm.Stand Jvm.Free Jvm.LawKit
section New
variable {p : Program} {l : Launch} {e : Env} {R : Room} {s : State} {m : MethodId} {args : Array Value} {below : List Frame} {meth : Method} {c : Code} {T : State} {locs : List Loc} {cells slots : Nat}
theorem retI (X : Stand p l e R s m args below meth c T locs cells slots) (hx : p.tables.exec = Jvm.exec) {pc : Nat} {Ls : Array Slot} {z : Int32} {rest : List Value} (hret : meth.sig.returnType = some .int) (hd : decode c.code pc = .ok (.ireturn, 1)) {fs : List Frame}
    (hl : ∀ (f : JFrame) (acts : List Action), f.method = m → f.locked = none → f.entered = [] → (doReturn e (T.setTop f) acts (some (.int z))).1 = T.setFrames fs) : Steps p.tables e below (T.setTop (mkF m pc Ls (.int z :: rest))) (T.setFrames fs) := by
  have hm' : T.vm.method? m = some meth := X.method'
  have hn : narrow .int (.int z) = .int z := rfl
  show Steps p.tables e below (T.setTop { method := m, pc := pc, locals := Ls, stack := _ :: rest, locked := none }) _
  jvm_step X.here [X.here.top, hx, hd, hm', hret, hn]
  first | (intro acts; rw [hl _ acts rfl rfl rfl]) | rw [hl _ _ rfl rfl rfl]
  exact Steps.refl _
theorem retJ (X : Stand p l e R s m args below meth c T locs cells slots) (hx : p.tables.exec = Jvm.exec) {pc : Nat} {Ls : Array Slot} {z : Int64} {rest : List Value} (hret : meth.sig.returnType = some .long) (hd : decode c.code pc = .ok (.lreturn, 1)) {fs : List Frame}
    (hl : ∀ (f : JFrame) (acts : List Action), f.method = m → f.locked = none → f.entered = [] → (doReturn e (T.setTop f) acts (some (.long z))).1 = T.setFrames fs) : Steps p.tables e below (T.setTop (mkF m pc Ls (.long z :: rest))) (T.setFrames fs) := by
  have hm' : T.vm.method? m = some meth := X.method'
  have hn : narrow .long (.long z) = .long z := rfl
  show Steps p.tables e below (T.setTop { method := m, pc := pc, locals := Ls, stack := _ :: rest, locked := none }) _
  jvm_step X.here [X.here.top, hx, hd, hm', hret, hn]
  first | (intro acts; rw [hl _ acts rfl rfl rfl]) | rw [hl _ _ rfl rfl rfl]
  exact Steps.refl _
end New
end Jvm.RoadKit
namespace Jvm.Pilot.@@N@@
open Jvm Jvm.ClassFile Sem Op Lib Jvm.Free Jvm.Stand Jvm.LawKit Jvm.RoadKit Bundle Jvm.Pilot.@@N@@.Jvm.D
theorem own_j1 {G : Prop} {A : Prop → Prop} (h1 : A G) (h2 : A G → G) : G := h2 h1
def own_at8 (w i : Int32) : Int32 := nar .byte (((w.toUInt32 >>> (((8 : Int32) * i) &&& 31).toUInt32).toInt32).toInt8.toInt32)
theorem own_nar8 (w i : Int32) : nar .byte (own_at8 w i) = own_at8 w i := by simp [own_at8, nar]
theorem own_k5 (p : Int32) : let k := (p &&& (2147483647 : Int32)) % (5 : Int32); k = 0 ∨ k = 1 ∨ k = 2 ∨ k = 3 ∨ k = 4 := by
  intro k
  have h0 := c_and p 2147483647 (by decide)
  have h1 := (c_irem (p &&& (2147483647 : Int32)) 5 5 (by decide)).1 h0.1
  have h2 : k.toInt = (p &&& (2147483647 : Int32)).toInt % 5 := h1
  have h3 : k.toInt = 0 ∨ k.toInt = 1 ∨ k.toInt = 2 ∨ k.toInt = 3 ∨ k.toInt = 4 := by omega
  rcases h3 with h | h | h | h | h
  · exact Or.inl (Int32.toInt_inj.mp h)
  · exact Or.inr (Or.inl (Int32.toInt_inj.mp h))
  · exact Or.inr (Or.inr (Or.inl (Int32.toInt_inj.mp h)))
  · exact Or.inr (Or.inr (Or.inr (Or.inl (Int32.toInt_inj.mp h))))
  · exact Or.inr (Or.inr (Or.inr (Or.inr (Int32.toInt_inj.mp h))))
theorem own_wS {a0 : Array Value} {Z : State} (hw : ∀ d ∈ tables_1, d.before a0 Z = true) : ∀ a ∈ Bundle.stringAtoms, a.before a0 Z = true := by
  intro a ha
  simp only [Bundle.stringAtoms, List.mem_cons, List.not_mem_nil, or_false] at ha
  rcases ha with rfl | rfl | rfl | rfl | rfl | rfl | rfl
  · exact (hw _ (List.mem_of_getElem? (i := 9) rfl))
  · exact (hw _ (List.mem_of_getElem? (i := 10) rfl))
  · exact (hw _ (List.mem_of_getElem? (i := 1) rfl))
  · exact (hw _ (List.mem_of_getElem? (i := 11) rfl))
  · exact (hw _ (List.mem_of_getElem? (i := 12) rfl))
  · exact (hw _ (List.mem_of_getElem? (i := 13) rfl))
  · exact (hw _ (List.mem_of_getElem? (i := 14) rfl))
theorem d11_0 : decode method_2_code 0 = .ok (.iload_n 0, 1) := by decide +kernel
theorem d11_1 : decode method_2_code 1 = .ok (.bipush 8, 2) := by decide +kernel
theorem d11_3 : decode method_2_code 3 = .ok (.iload_n 1, 1) := by decide +kernel
theorem d11_4 : decode method_2_code 4 = .ok (.imul, 1) := by decide +kernel
theorem d11_5 : decode method_2_code 5 = .ok (.iushr, 1) := by decide +kernel
theorem d11_6 : decode method_2_code 6 = .ok (.i2b, 1) := by decide +kernel
theorem d11_7 : decode method_2_code 7 = .ok (.ireturn, 1) := by decide +kernel
theorem pn_0 : plainName "com/example/ledgerpost/ledgerpost/PayloadOfBytesPinLaw" = true := by first | (simp [plainName, overriddenIn]; done) | decide +kernel
theorem ef_rmA (m : MethodId) (x0 : Int32) (x1 : Int32) : entryFrame m #[(.int x0), (.int x1)] 2 = mkF m 0 #[.val (.int x0), .val (.int x1)] [] := by first | (simp [entryFrame, mkF, argsToLocals, Value.category]; done) | rfl
def QrmA (Z : State) (p1 : Int32) (p2 : Int32) (h0 : Heap) (n0 : Nat) (v : Option Value) (h : Heap) (L : List Loc) : Prop := v = some (.int (own_at8 p1 p2)) ∧ Fr n0 L ∧ h = h0
set_option maxRecDepth 65536 in
set_option maxHeartbeats 40000000 in
theorem rmA (l : Launch) (Z : State) (a0 : Array Value) (hw : ∀ d ∈ tables_1, d.before a0 Z = true) (ws : List Jvm.Cond) (p1 : Int32) (p2 : Int32) (h0 : Heap) (n0 : Nat) (Z0 : n0 ≤ h0.size) :
    MetFree l (⟨"com/example/ledgerpost/ledgerpost/PayloadOfBytesPinLaw", "at", "(II)B"⟩ : MethodName) (head1 (Jvm.Cond.code (⟨"com/example/ledgerpost/ledgerpost/PayloadOfBytesPinLaw", "at", "(II)B"⟩ : MethodName) method_2_code 2 (some .byte) :: ws) ({ frames := 0, cells := 0, slots := 0, locals := 0 } : Room)) (fun a U => a = #[(.int p1), (.int p2)] ∧ Z.Warmed39 U.vm ∧ U.heap = h0) (fun _ _ _ _ _ => True) (fun _ U o U' => ∃ v L, o = .returned v ∧ QrmA Z p1 p2 h0 n0 v U'.heap L ∧ FrameEnd U o U' L ({ frames := 0, cells := 0, slots := 0, locals := 0 } : Room).cells ({ frames := 0, cells := 0, slots := 0, locals := 0 } : Room).slots) := by
  refine MetFree.of_bodySF (plainFor_of_name pn_0) hisR ?_
  intro p e s m args below meth c s₁ Bd hml0 hP hK
  obtain ⟨rfl, hZ, hh⟩ := hP
  have hx := Bd.exec
  have hby := Bd.bytes
  have hml : c.maxLocals = 2 := hml0
  have hown : s.vm.findClass "com/example/ledgerpost/ledgerpost/PayloadOfBytesPinLaw" = some m.cls := findClass_of_methodNamed Bd.named
  have hnm := (name_of_methodNamed Bd.named Bd.method).1
  have X0 : Stand p l e ({ frames := 0, cells := 0, slots := 0, locals := 0 } : Room) s m #[(.int p1), (.int p2)] below meth c s₁ [] 0 0 := Stand.of_body Bd
  have e0 : s₁.heap = h0 := by rw [← hh, Bd.state]; rfl
  have N0 := Fr.nil n0
  have pre0 : ∀ t_, Steps p.tables e below (s₁.setTop (mkF m 0 #[.val (.int p1), .val (.int p2)] [])) t_ → Steps p.tables e below (s₁.setTop (entryFrame m #[(.int p1), (.int p2)] 2)) t_ := fun t_ k_ => castTop (ef_rmA m p1 p2) k_
  have pre101 : ∀ t_, Steps p.tables e below (s₁.setTop (mkF m 7 #[.val (.int p1), .val (.int p2)] [(.int (((p1.toUInt32 >>> (((8 : Int32) * p2) &&& 31).toUInt32).toInt32).toInt8.toInt32))])) t_ → Steps p.tables e below (s₁.setTop (entryFrame m #[(.int p1), (.int p2)] 2)) t_ := fun t_ k_ => pre0 _ (by
    show Steps p.tables e below (s₁.setTop (mkF m 0 #[.val (.int p1), .val (.int p2)] [])) _
    refine XS.iloadN X0.here hx rfl (hb hby d11_0) rfl ?_
    show Steps p.tables e below (s₁.setTop (mkF m 1 #[.val (.int p1), .val (.int p2)] [(.int p1)])) _
    refine XS.bipush X0.here hx rfl (hb hby d11_1) ?_
    show Steps p.tables e below (s₁.setTop (mkF m 3 #[.val (.int p1), .val (.int p2)] [(.int (8 : Int32)), (.int p1)])) _
    refine XS.iloadN X0.here hx rfl (hb hby d11_3) rfl ?_
    show Steps p.tables e below (s₁.setTop (mkF m 4 #[.val (.int p1), .val (.int p2)] [(.int p2), (.int (8 : Int32)), (.int p1)])) _
    refine XS.imul X0.here hx rfl (hb hby d11_4) rfl ?_
    show Steps p.tables e below (s₁.setTop (mkF m 5 #[.val (.int p1), .val (.int p2)] [(.int ((8 : Int32) * p2)), (.int p1)])) _
    refine XS.iushr X0.here hx rfl (hb hby d11_5) rfl ?_
    show Steps p.tables e below (s₁.setTop (mkF m 6 #[.val (.int p1), .val (.int p2)] [(.int ((p1.toUInt32 >>> (((8 : Int32) * p2) &&& 31).toUInt32).toInt32))])) _
    refine XS.i2b X0.here hx rfl (hb hby d11_6) rfl ?_
    exact k_)
  obtain ⟨fs, hr, hrun, hended, hW, hsame⟩ := X0.leave (v := some (.int (nar .byte (((p1.toUInt32 >>> (((8 : Int32) * p2) &&& 31).toUInt32).toInt32).toInt8.toInt32)))) (fun h => by rw [Bd.returns] at h; cases h)
  refine ⟨_, _, pre101 _ ?_, hrun, hended, _, _, rfl, ?_, ⟨_, rfl⟩, hW, hsame.mono (by decide) (by decide)⟩
  · show Steps p.tables e below (s₁.setTop (mkF m 7 #[.val (.int p1), .val (.int p2)] [(.int (((p1.toUInt32 >>> (((8 : Int32) * p2) &&& 31).toUInt32).toInt32).toInt8.toInt32))])) _
    exact retN X0 hx (t := .byte) Bd.returns (by simp) (hb hby d11_7) hr
  · show QrmA Z p1 p2 h0 n0 _ s₁.heap _
    rw [e0]
    exact ⟨rfl, N0, rfl⟩
theorem d2_0 : decode jdk_31_method_11_code 0 = .ok (.aload_n 0, 1) := by decide +kernel
theorem d2_1 : decode jdk_31_method_11_code 1 = .ok (.ifnonnull 12, 3) := by decide +kernel
theorem d2_13 : decode jdk_31_method_11_code 13 = .ok (.aload_n 0, 1) := by decide +kernel
theorem d2_14 : decode jdk_31_method_11_code 14 = .ok (.areturn, 1) := by decide +kernel
theorem pn_1 : plainName "java/util/Objects" = true := by first | (simp [plainName, overriddenIn]; done) | decide +kernel
theorem ef_rmQ (m : MethodId) (x0 : Addr) (x1 : Addr) : entryFrame m #[(.ref x0), (.ref x1)] 2 = mkF m 0 #[.val (.ref x0), .val (.ref x1)] [] := by first | (simp [entryFrame, mkF, argsToLocals, Value.category]; done) | rfl
def QrmQ (Z : State) (a1 : Addr) (a2 : Addr) (h0 : Heap) (n0 : Nat) (v : Option Value) (h : Heap) (L : List Loc) : Prop := v = some (.ref a1) ∧ Fr n0 L ∧ h = h0
set_option maxRecDepth 65536 in
set_option maxHeartbeats 40000000 in
theorem rmQ (l : Launch) (Z : State) (a0 : Array Value) (hw : ∀ d ∈ tables_1, d.before a0 Z = true) (ws : List Jvm.Cond) (a1 : Addr) (a2 : Addr) (h0 : Heap) (n0 : Nat) (Z0 : n0 ≤ h0.size) :
    MetFree l (⟨"java/util/Objects", "requireNonNull", "(Ljava/lang/Object;Ljava/lang/String;)Ljava/lang/Object;"⟩ : MethodName) (head1 (Jvm.Cond.code (⟨"java/util/Objects", "requireNonNull", "(Ljava/lang/Object;Ljava/lang/String;)Ljava/lang/Object;"⟩ : MethodName) jdk_31_method_11_code 2 (some (.object "java/lang/Object")) :: ws) ({ frames := 0, cells := 0, slots := 0, locals := 0 } : Room)) (fun a U => a = #[(.ref a1), (.ref a2)] ∧ Z.Warmed39 U.vm ∧ U.heap = h0) (fun _ _ _ _ _ => True) (fun _ U o U' => ∃ v L, o = .returned v ∧ QrmQ Z a1 a2 h0 n0 v U'.heap L ∧ FrameEnd U o U' L ({ frames := 0, cells := 0, slots := 0, locals := 0 } : Room).cells ({ frames := 0, cells := 0, slots := 0, locals := 0 } : Room).slots) := by
  refine MetFree.of_bodySF (plainFor_of_name pn_1) hisR ?_
  intro p e s m args below meth c s₁ Bd hml0 hP hK
  obtain ⟨rfl, hZ, hh⟩ := hP
  have hx := Bd.exec
  have hby := Bd.bytes
  have hml : c.maxLocals = 2 := hml0
  have hown : s.vm.findClass "java/util/Objects" = some m.cls := findClass_of_methodNamed Bd.named
  have hnm := (name_of_methodNamed Bd.named Bd.method).1
  have X0 : Stand p l e ({ frames := 0, cells := 0, slots := 0, locals := 0 } : Room) s m #[(.ref a1), (.ref a2)] below meth c s₁ [] 0 0 := Stand.of_body Bd
  have e0 : s₁.heap = h0 := by rw [← hh, Bd.state]; rfl
  have N0 := Fr.nil n0
  have pre0 : ∀ t_, Steps p.tables e below (s₁.setTop (mkF m 0 #[.val (.ref a1), .val (.ref a2)] [])) t_ → Steps p.tables e below (s₁.setTop (entryFrame m #[(.ref a1), (.ref a2)] 2)) t_ := fun t_ k_ => castTop (ef_rmQ m a1 a2) k_
  have pre101 : ∀ t_, Steps p.tables e below (s₁.setTop (mkF m 14 #[.val (.ref a1), .val (.ref a2)] [(.ref a1)])) t_ → Steps p.tables e below (s₁.setTop (entryFrame m #[(.ref a1), (.ref a2)] 2)) t_ := fun t_ k_ => pre0 _ (by
    show Steps p.tables e below (s₁.setTop (mkF m 0 #[.val (.ref a1), .val (.ref a2)] [])) _
    refine XS.aloadN X0.here hx rfl (hb hby d2_0) rfl rfl ?_
    show Steps p.tables e below (s₁.setTop (mkF m 1 #[.val (.ref a1), .val (.ref a2)] [(.ref a1)])) _
    refine XS.ifnonnullYes X0.here hx rfl (pc0 := 1) (pc' := 13) rfl (hb hby d2_1) rfl (by decide) (by decide) ?_
    show Steps p.tables e below (s₁.setTop (mkF m 13 #[.val (.ref a1), .val (.ref a2)] [])) _
    refine XS.aloadN X0.here hx rfl (hb hby d2_13) rfl rfl ?_
    exact k_)
  obtain ⟨fs, hr, hrun, hended, hW, hsame⟩ := X0.leave (v := some (.ref a1)) (fun h => by rw [Bd.returns] at h; cases h)
  refine ⟨_, _, pre101 _ ?_, hrun, hended, _, _, rfl, ?_, ⟨_, rfl⟩, hW, hsame.mono (by decide) (by decide)⟩
  · show Steps p.tables e below (s₁.setTop (mkF m 14 #[.val (.ref a1), .val (.ref a2)] [(.ref a1)])) _
    jvm_step X0.here [X0.here.top, hx, (hb hby d2_14), X0.method', Bd.returns, Value.isRef, FieldType.isReference]
    first | (intro acts; rw [hr _ acts rfl rfl rfl]) | rw [hr _ _ rfl rfl rfl]
    exact Steps.refl _
  · show QrmQ Z a1 a2 h0 n0 _ s₁.heap _
    rw [e0]
    exact ⟨rfl, N0, rfl⟩
theorem d3_0 : decode prog_22_method_1_code 0 = .ok (.aload_n 0, 1) := by decide +kernel
theorem d3_1 : decode prog_22_method_1_code 1 = .ok (.invokespecial 1, 3) := by decide +kernel
theorem d3_4 : decode prog_22_method_1_code 4 = .ok (.aload_n 0, 1) := by decide +kernel
theorem d3_5 : decode prog_22_method_1_code 5 = .ok (.aload_n 1, 1) := by decide +kernel
theorem d3_6 : decode prog_22_method_1_code 6 = .ok (.putfield 7, 3) := by decide +kernel
theorem d3_9 : decode prog_22_method_1_code 9 = .ok (.aload_n 0, 1) := by decide +kernel
theorem d3_10 : decode prog_22_method_1_code 10 = .ok (.aload_n 2, 1) := by decide +kernel
theorem d3_11 : decode prog_22_method_1_code 11 = .ok (.putfield 13, 3) := by decide +kernel
theorem d3_14 : decode prog_22_method_1_code 14 = .ok (.return_, 1) := by decide +kernel
theorem pn_2 : plainName "com/example/ledgerpost/ledgerpost/Payload" = true := by first | (simp [plainName, overriddenIn]; done) | decide +kernel
theorem ef_rmC (m : MethodId) (x0 : Addr) (x2 : Addr) : entryFrame m #[(.ref x0), .null, (.ref x2)] 3 = mkF m 0 #[.val (.ref x0), .val .null, .val (.ref x2)] [] := by first | (simp [entryFrame, mkF, argsToLocals, Value.category]; done) | rfl
def QrmC (Z : State) (a1 : Addr) (a3 : Addr) (h0 : Heap) (n0 : Nat) (v : Option Value) (h : Heap) (L : List Loc) : Prop := v = none ∧ Fr n0 L ∧ Keep h0 h [a1] ∧ Exa Z h a1 "com/example/ledgerpost/ledgerpost/Payload" ∧ Fld Z h a1 "com/example/ledgerpost/ledgerpost/Payload" "text" "Ljava/lang/String;" .null ∧ Fld Z h a1 "com/example/ledgerpost/ledgerpost/Payload" "bytes" "[B" (.ref a3)
set_option maxRecDepth 65536 in
set_option maxHeartbeats 40000000 in
theorem rmC (l : Launch) (Z : State) (a0 : Array Value) (hw : ∀ d ∈ tables_1, d.before a0 Z = true) (ws : List Jvm.Cond) (a1 : Addr) (a3 : Addr) (h0 : Heap) (n0 : Nat) (Z0 : n0 ≤ h0.size) (E_o : Exa Z h0 a1 "com/example/ledgerpost/ledgerpost/Payload") (F_0 : Fld Z h0 a1 "com/example/ledgerpost/ledgerpost/Payload" "text" "Ljava/lang/String;" .null) (F_1 : Fld Z h0 a1 "com/example/ledgerpost/ledgerpost/Payload" "bytes" "[B" .null) (g_a1 : n0 ≤ a1) :
    MetFree l (⟨"com/example/ledgerpost/ledgerpost/Payload", "<init>", "(Ljava/lang/String;[B)V"⟩ : MethodName) (head1 (Jvm.Cond.code (⟨"com/example/ledgerpost/ledgerpost/Payload", "<init>", "(Ljava/lang/String;[B)V"⟩ : MethodName) prog_22_method_1_code 3 none :: ws) ({ frames := 1, cells := 0, slots := 0, locals := 12 } : Room)) (fun a U => a = #[(.ref a1), .null, (.ref a3)] ∧ Z.Warmed39 U.vm ∧ U.heap = h0) (fun _ _ _ _ _ => True) (fun _ U o U' => ∃ v L, o = .returned v ∧ QrmC Z a1 a3 h0 n0 v U'.heap L ∧ FrameEnd U o U' L ({ frames := 1, cells := 0, slots := 0, locals := 12 } : Room).cells ({ frames := 1, cells := 0, slots := 0, locals := 12 } : Room).slots) := by
  refine MetFree.of_bodySF (plainFor_of_name pn_2) hisR ?_
  intro p e s m args below meth c s₁ Bd hml0 hP hK
  obtain ⟨rfl, hZ, hh⟩ := hP
  have hx := Bd.exec
  have hby := Bd.bytes
  have hml : c.maxLocals = 3 := hml0
  have hown : s.vm.findClass "com/example/ledgerpost/ledgerpost/Payload" = some m.cls := findClass_of_methodNamed Bd.named
  have hnm := (name_of_methodNamed Bd.named Bd.method).1
  have X0 : Stand p l e ({ frames := 1, cells := 0, slots := 0, locals := 12 } : Room) s m #[(.ref a1), .null, (.ref a3)] below meth c s₁ [] 0 0 := Stand.of_body Bd
  have e0 : s₁.heap = h0 := by rw [← hh, Bd.state]; rfl
  have N0 := Fr.nil n0
  have pre0 : ∀ t_, Steps p.tables e below (s₁.setTop (mkF m 0 #[.val (.ref a1), .val .null, .val (.ref a3)] [])) t_ → Steps p.tables e below (s₁.setTop (entryFrame m #[(.ref a1), .null, (.ref a3)] 3)) t_ := fun t_ k_ => castTop (ef_rmC m a1 a3) k_
  obtain ⟨T101, X101, e101, st101⟩ := initO X0 hx hZ hown (hw _ (List.mem_of_getElem? (i := 31) rfl)) (hw _ (List.mem_of_getElem? (i := 32) rfl)) (hw _ (List.mem_of_getElem? (i := 33) rfl)) e0 (g := (mkF m 1 #[.val (.ref a1), .val .null, .val (.ref a3)] [(.ref a1)])) rfl (by rw [hml]; rfl) rfl (hb hby d3_1) (by decide) (W := 0) (by show 2 * 0 + _ ≤ _; exact Nat.le_of_eq rfl) (by decide)
  obtain ⟨T102, h102, X102, e102, W102, st102⟩ := putF X101 hx hZ hown (host := "") (Or.inl (hw _ (List.mem_of_getElem? (i := 34) rfl))) Via.refl e101 F_0 E_o (Or.inr ⟨(hw _ (List.mem_of_getElem? (i := 35) rfl)), rfl, hnm⟩) (hw _ (List.mem_of_getElem? (i := 7) rfl)) (ty := (.object "java/lang/String")) (by decide) rfl rfl (g := (mkF m 6 #[.val (.ref a1), .val .null, .val (.ref a3)] [.null, (.ref a1)])) rfl rfl (hb hby d3_6)
  have F1_103 := F_1.other W102 (Or.inr (slot_ne (Or.inr (hw _ (List.mem_of_getElem? (i := 37) rfl))) (Or.inr (hw _ (List.mem_of_getElem? (i := 35) rfl))) (by decide) (t := (.array .byte)) (t' := (.object "java/lang/String")) (by decide) (by decide)))
  have E_104 := E_o.wr W102
  have K_105 := (Keep.refl h0 [a1]).wr W102 (Or.inl (List.mem_of_getElem? (i := 0) rfl))
  have F0_106 := F_0.same W102
  have N102 := Fr.snoc X102 N0 g_a1
  have Z107 : n0 ≤ h102.size := Nat.le_trans Z0 ((Keep.of_wr W102).1)
  obtain ⟨T108, h108, X108, e108, W108, st108⟩ := putF X102 hx hZ hown (host := "") (Or.inl (hw _ (List.mem_of_getElem? (i := 36) rfl))) Via.refl e102 F1_103 E_104 (Or.inr ⟨(hw _ (List.mem_of_getElem? (i := 37) rfl)), rfl, hnm⟩) (hw _ (List.mem_of_getElem? (i := 7) rfl)) (ty := (.array .byte)) (by decide) rfl rfl (g := (mkF m 11 #[.val (.ref a1), .val .null, .val (.ref a3)] [(.ref a3), (.ref a1)])) rfl rfl (hb hby d3_11)
  have F0_109 := F0_106.other W108 (Or.inr (slot_ne (Or.inr (hw _ (List.mem_of_getElem? (i := 35) rfl))) (Or.inr (hw _ (List.mem_of_getElem? (i := 37) rfl))) (by decide) (t := (.object "java/lang/String")) (t' := (.array .byte)) (by decide) (by decide)))
  have E_110 := E_104.wr W108
  have K_111 := K_105.wr W108 (Or.inl (List.mem_of_getElem? (i := 0) rfl))
  have F1_112 := F1_103.same W108
  have N108 := Fr.snoc X108 N102 g_a1
  have Z113 : n0 ≤ h108.size := Nat.le_trans Z107 ((Keep.of_wr W108).1)
  have pre114 : ∀ t_, Steps p.tables e below (T108.setTop (mkF m 14 #[.val (.ref a1), .val .null, .val (.ref a3)] [])) t_ → Steps p.tables e below (s₁.setTop (entryFrame m #[(.ref a1), .null, (.ref a3)] 3)) t_ := fun t_ k_ => pre0 _ (by
    show Steps p.tables e below (s₁.setTop (mkF m 0 #[.val (.ref a1), .val .null, .val (.ref a3)] [])) _
    refine XS.aloadN X0.here hx rfl (hb hby d3_0) rfl rfl ?_
    show Steps p.tables e below (s₁.setTop (mkF m 1 #[.val (.ref a1), .val .null, .val (.ref a3)] [(.ref a1)])) _
    refine st101 _ ?_
    show Steps p.tables e below (T101.setTop (mkF m 4 #[.val (.ref a1), .val .null, .val (.ref a3)] [])) _
    refine XS.aloadN X101.here hx rfl (hb hby d3_4) rfl rfl ?_
    show Steps p.tables e below (T101.setTop (mkF m 5 #[.val (.ref a1), .val .null, .val (.ref a3)] [(.ref a1)])) _
    refine XS.aloadN X101.here hx rfl (hb hby d3_5) rfl rfl ?_
    show Steps p.tables e below (T101.setTop (mkF m 6 #[.val (.ref a1), .val .null, .val (.ref a3)] [.null, (.ref a1)])) _
    refine st102 _ ?_
    show Steps p.tables e below (T102.setTop (mkF m 9 #[.val (.ref a1), .val .null, .val (.ref a3)] [])) _
    refine XS.aloadN X102.here hx rfl (hb hby d3_9) rfl rfl ?_
    show Steps p.tables e below (T102.setTop (mkF m 10 #[.val (.ref a1), .val .null, .val (.ref a3)] [(.ref a1)])) _
    refine XS.aloadN X102.here hx rfl (hb hby d3_10) rfl rfl ?_
    show Steps p.tables e below (T102.setTop (mkF m 11 #[.val (.ref a1), .val .null, .val (.ref a3)] [(.ref a3), (.ref a1)])) _
    refine st108 _ ?_
    exact k_)
  obtain ⟨fs, hr, hrun, hended, hW, hsame⟩ := X108.leave (v := none) (fun _ => rfl)
  refine ⟨_, _, pre114 _ ?_, hrun, hended, _, _, rfl, ?_, ⟨_, rfl⟩, hW, hsame.mono (by decide) (by decide)⟩
  · show Steps p.tables e below (T108.setTop (mkF m 14 #[.val (.ref a1), .val .null, .val (.ref a3)] [])) _
    exact X108.returnOut hx Bd.returns (hb hby d3_14) hr
  · show QrmC Z a1 a3 h0 n0 _ T108.heap _
    rw [e108]
    exact ⟨rfl, N108, K_111, E_110, F0_109, F1_112⟩
theorem pd_0 : parseMethodDescriptor "(Ljava/lang/Object;Ljava/lang/String;)Ljava/lang/Object;" = some ⟨[(.object "java/lang/Object"), (.object "java/lang/String")], some (.object "java/lang/Object")⟩ := by decide +kernel
theorem pd_1 : parseMethodDescriptor "(Ljava/lang/String;[B)V" = some ⟨[(.object "java/lang/String"), (.array .byte)], none⟩ := by decide +kernel
theorem d1_0 : decode prog_22_method_3_code 0 = .ok (.new 8, 3) := by decide +kernel
theorem d1_3 : decode prog_22_method_3_code 3 = .ok (.dup, 1) := by decide +kernel
theorem d1_4 : decode prog_22_method_3_code 4 = .ok (.aconst_null, 1) := by decide +kernel
theorem d1_5 : decode prog_22_method_3_code 5 = .ok (.aload_n 0, 1) := by decide +kernel
theorem d1_6 : decode prog_22_method_3_code 6 = .ok (.ldc 29, 2) := by decide +kernel
theorem d1_8 : decode prog_22_method_3_code 8 = .ok (.invokestatic 18, 3) := by decide +kernel
theorem d1_11 : decode prog_22_method_3_code 11 = .ok (.checkcast 30, 3) := by decide +kernel
theorem d1_14 : decode prog_22_method_3_code 14 = .ok (.invokevirtual 31, 3) := by decide +kernel
theorem d1_17 : decode prog_22_method_3_code 17 = .ok (.checkcast 30, 3) := by decide +kernel
theorem d1_20 : decode prog_22_method_3_code 20 = .ok (.invokespecial 26, 3) := by decide +kernel
theorem d1_23 : decode prog_22_method_3_code 23 = .ok (.areturn, 1) := by decide +kernel
theorem ef_rmO (m : MethodId) (x0 : Addr) : entryFrame m #[(.ref x0)] 1 = mkF m 0 #[.val (.ref x0)] [] := by first | (simp [entryFrame, mkF, argsToLocals, Value.category]; done) | rfl
def QrmO (Z : State) (a1 : Addr) (kx : ClassId) (nn : Int32) (vs : List Value) (h0 : Heap) (n0 : Nat) (v : Option Value) (h : Heap) (L : List Loc) : Prop := ∃ (b : Addr) (cc : Addr), v = some (.ref b) ∧ Fr n0 L ∧ Keep h0 h [] ∧ Exa Z h b "com/example/ledgerpost/ledgerpost/Payload" ∧ Fld Z h b "com/example/ledgerpost/ledgerpost/Payload" "text" "Ljava/lang/String;" .null ∧ Fld Z h b "com/example/ledgerpost/ledgerpost/Payload" "bytes" "[B" (.ref cc) ∧ Arv Z h cc kx .byte nn vs (.int (0 : Int32)) ∧ Exa Z h cc "[B" ∧ h0.size ≤ b ∧ h0.size ≤ cc
set_option maxRecDepth 65536 in
set_option maxHeartbeats 40000000 in
theorem rmO (l : Launch) (Z : State) (a0 : Array Value) (hw : ∀ d ∈ tables_1, d.before a0 Z = true) (ws : List Jvm.Cond) (a1 : Addr) (kx : ClassId) (nn : Int32) (vs : List Value) (h0 : Heap) (n0 : Nat) (Z0 : n0 ≤ h0.size) (V : Arv Z h0 a1 kx .byte nn vs (.int (0 : Int32))) (E_a : Exa Z h0 a1 "[B") (hz : nn.toNatClampNeg ≤ 4) :
    MetFree l (⟨"com/example/ledgerpost/ledgerpost/Payload", "ofBytes", "([B)Lcom/example/ledgerpost/ledgerpost/Payload;"⟩ : MethodName) (head1 (Jvm.Cond.code (⟨"com/example/ledgerpost/ledgerpost/Payload", "ofBytes", "([B)Lcom/example/ledgerpost/ledgerpost/Payload;"⟩ : MethodName) prog_22_method_3_code 1 (some (.object "com/example/ledgerpost/ledgerpost/Payload")) :: ws) ({ frames := 2, cells := 4, slots := 30, locals := 27 } : Room)) (fun a U => a = #[(.ref a1)] ∧ Z.Warmed39 U.vm ∧ U.heap = h0) (fun _ _ _ _ _ => True) (fun _ U o U' => ∃ v L, o = .returned v ∧ QrmO Z a1 kx nn vs h0 n0 v U'.heap L ∧ ReturnedEndW U o U' L ({ frames := 2, cells := 4, slots := 30, locals := 27 } : Room).cells ({ frames := 2, cells := 4, slots := 30, locals := 27 } : Room).slots) := by
  refine MetFree.of_bodySF (plainFor_of_name pn_2) hisR ?_
  intro p e s m args below meth c s₁ Bd hml0 hP hK
  obtain ⟨rfl, hZ, hh⟩ := hP
  have hx := Bd.exec
  have hby := Bd.bytes
  have hml : c.maxLocals = 1 := hml0
  have hown : s.vm.findClass "com/example/ledgerpost/ledgerpost/Payload" = some m.cls := findClass_of_methodNamed Bd.named
  have hnm := (name_of_methodNamed Bd.named Bd.method).1
  have X0 : Stand p l e ({ frames := 2, cells := 4, slots := 30, locals := 27 } : Room) s m #[(.ref a1)] below meth c s₁ [] 0 0 := Stand.of_body Bd
  have e0 : s₁.heap = h0 := by rw [← hh, Bd.state]; rfl
  have N0 := Fr.nil n0
  have pre0 : ∀ t_, Steps p.tables e below (s₁.setTop (mkF m 0 #[.val (.ref a1)] [])) t_ → Steps p.tables e below (s₁.setTop (entryFrame m #[(.ref a1)] 1)) t_ := fun t_ k_ => castTop (ef_rmO m a1) k_
  obtain ⟨T101, h101, X101, e101, Ext_b, E_b, D_b, -, st101⟩ := newO X0 hx hZ hown (hw _ (List.mem_of_getElem? (i := 6) rfl)) (hw _ (List.mem_of_getElem? (i := 7) rfl)) (hw _ (List.mem_of_getElem? (i := 4) rfl)) e0 (g := (mkF m 0 #[.val (.ref a1)] [])) rfl (hb hby d1_0) (by decide) (by decide)
  obtain ⟨b, eq_b⟩ : ∃ z, z = h0.size := ⟨_, rfl⟩
  rw [← eq_b] at E_b D_b st101
  have g_b : n0 ≤ b := Nat.le_trans Z0 (Nat.le_of_eq eq_b.symm)
  have ne_a1_b : a1 ≠ b := Nat.ne_of_lt (Nat.lt_of_lt_of_le V.lt (Nat.le_of_eq eq_b.symm))
  have V_102 := V.ext Ext_b
  have Ea_103 := E_a.ext Ext_b
  have Z104 : n0 ≤ h101.size := Nat.le_trans Z0 (Ext_b.1)
  have F0_b : Fld Z h101 b "com/example/ledgerpost/ledgerpost/Payload" "text" "Ljava/lang/String;" .null := D_b (Or.inr (hw _ (List.mem_of_getElem? (i := 35) rfl))) (ty := (.object "java/lang/String")) (by decide)
  have F1_b : Fld Z h101 b "com/example/ledgerpost/ledgerpost/Payload" "bytes" "[B" .null := D_b (Or.inr (hw _ (List.mem_of_getElem? (i := 37) rfl))) (ty := (.array .byte)) (by decide)
  have K0 := (Keep.refl h0 []).ext Ext_b
  obtain ⟨st_, T105, h105, k1_105, X105, e105, Ext105, hS105, hk105, hZ105, hown105, st105⟩ := Jvm.RoadKit.ldcS (s := s) (vm0 := s.vm) X101 hx hZ hown (hw _ (List.mem_of_getElem? (i := 8) rfl)) (own_wS hw) e101 ((State.WarmedH.refl s).since 0) (Nat.zero_le _) (g := (mkF m 6 #[.val (.ref a1)] [(.ref a1), .null, (.ref b), (.ref b)])) rfl (hb hby d1_6) (n := 20) (by first | decide | decide +kernel | simp) (by decide) (by decide) (by decide)
  have V_106 := V_102.ext Ext105
  have Ea_107 := Ea_103.ext Ext105
  have E_b_109 := E_b.ext Ext105
  have F0_b_110 := F0_b.ext Ext105
  have F1_b_111 := F1_b.ext Ext105
  have K_112 := K0.ext Ext105
  have Z113 : n0 ≤ h105.size := Nat.le_trans Z104 (Ext105.1)
  obtain ⟨_, _, ⟨T114, L114, k114, n114⟩, -, X114, ⟨Lc114, hQ114, l114, y114, z114⟩, st114⟩ := Jvm.LawKit.callS X105 hx (y := (⟨"java/util/Objects", "requireNonNull", "(Ljava/lang/Object;Ljava/lang/String;)Ljava/lang/Object;"⟩ : MethodName)) hown105 (mvT hZ105 (hw _ (List.mem_of_getElem? (i := 15) rfl))) (mvT hZ105 (hw _ (List.mem_of_getElem? (i := 16) rfl))) (mvT hZ105 (hw _ (List.mem_of_getElem? (i := 17) rfl))) (mvT hZ105 (hw _ (List.mem_of_getElem? (i := 18) rfl))) (by decide) (backOf (W := 3) (rmQ l Z a0 hw [] a1 st_ h105 n0 Z113 ) hZ105 (hw _ (List.mem_of_getElem? (i := 18) rfl)) (hw _ (List.mem_of_getElem? (i := 17) rfl)) (by decide) (by decide)) (g := (mkF m 8 #[.val (.ref a1)] [(.ref st_), (.ref a1), .null, (.ref b), (.ref b)])) rfl (by rw [hml]; rfl) (argsL := [(.ref a1), (.ref st_)]) (rest := [.null, (.ref b), (.ref b)]) (lenOf pd_0 rfl) rfl (by show 2 * 0 + _ ≤ _; exact Nat.le_of_eq rfl) (hb hby d1_8) (fun _ _ => ⟨rfl, e105, (by decide : 3 + 0 ≤ _), (by decide : 26 + 0 ≤ _)⟩)
  dsimp only [Pt.U, Pt.locs, Pt.cells, Pt.slots] at X114 l114 y114 z114 st114 hQ114
  subst l114 y114 z114
  obtain ⟨rfl, N114q, e114⟩ := hQ114
  have N114 := Fr.app N0 N114q
  obtain ⟨T115, X115, e115, st115⟩ := castY X114 hx hZ105 hown105 (hw _ (List.mem_of_getElem? (i := 19) rfl)) e114 (Ins.self Ea_107) (g := (mkF m 11 #[.val (.ref a1)] [(.ref a1), .null, (.ref b), (.ref b)])) rfl rfl (hb hby d1_11)
  obtain ⟨T116, h116, X116, e116, Ext_cc, V_cc, E_cc, st116⟩ := cloneH X115 hx hZ105 hown105 (hw _ (List.mem_of_getElem? (i := 21) rfl)) (hw _ (List.mem_of_getElem? (i := 22) rfl)) (hw _ (List.mem_of_getElem? (i := 26) rfl)) (hw _ (List.mem_of_getElem? (i := 24) rfl)) (hw _ (List.mem_of_getElem? (i := 25) rfl)) (hw _ (List.mem_of_getElem? (i := 27) rfl)) e115 (Arv.arh V_106) Ea_107 (g := (mkF m 14 #[.val (.ref a1)] [(.ref a1), .null, (.ref b), (.ref b)])) rfl (by rw [hml]; rfl) rfl (hb hby d1_14) (by decide) (W := 3) (cap := 4) (by show 2 * 0 + _ ≤ _; exact Nat.le_of_eq rfl) (by decide) hz (by decide) (by decide)
  obtain ⟨cc, eq_cc⟩ : ∃ z, z = h105.size := ⟨_, rfl⟩
  rw [← eq_cc] at V_cc E_cc st116
  have g_cc : n0 ≤ cc := Nat.le_trans Z113 (Nat.le_of_eq eq_cc.symm)
  have hcc : h0.size ≤ cc := Nat.le_trans K_112.1 (Nat.le_of_eq eq_cc.symm)
  have ne_a1_cc : a1 ≠ cc := Nat.ne_of_lt (Nat.lt_of_lt_of_le V_106.lt (Nat.le_of_eq eq_cc.symm))
  have V_117 := V_106.ext Ext_cc
  have Ea_118 := Ea_107.ext Ext_cc
  have ne_b_cc : b ≠ cc := Nat.ne_of_lt (Nat.lt_of_lt_of_le E_b_109.lt (Nat.le_of_eq eq_cc.symm))
  have E_b_120 := E_b_109.ext Ext_cc
  have F0_b_121 := F0_b_110.ext Ext_cc
  have F1_b_122 := F1_b_111.ext Ext_cc
  have K_123 := K_112.ext Ext_cc
  have Z124 : n0 ≤ h116.size := Nat.le_trans Z113 (Ext_cc.1)
  have hk125 := Nat.le_trans hk105 (Ext_cc.1)
  obtain ⟨T126, X126, e126, st126⟩ := castY X116 hx hZ105 hown105 (hw _ (List.mem_of_getElem? (i := 19) rfl)) e116 (Ins.self E_cc) (g := (mkF m 17 #[.val (.ref a1)] [(.ref cc), .null, (.ref b), (.ref b)])) rfl rfl (hb hby d1_17)
  obtain ⟨_, _, ⟨T127, L127, k127, n127⟩, -, X127, ⟨Lc127, hQ127, l127, y127, z127⟩, st127⟩ := X126.specialBack hx (y := (⟨"com/example/ledgerpost/ledgerpost/Payload", "<init>", "(Ljava/lang/String;[B)V"⟩ : MethodName)) rfl hown105 (mvT hZ105 (hw _ (List.mem_of_getElem? (i := 28) rfl))) (mvT hZ105 (hw _ (List.mem_of_getElem? (i := 29) rfl))) (mvT hZ105 (hw _ (List.mem_of_getElem? (i := 30) rfl))) (by decide) (backOf (W := 1) (rmC l Z a0 hw [] b cc h116 n0 Z124 E_b_120 F0_b_121 F1_b_122 g_b) hZ105 (hw _ (List.mem_of_getElem? (i := 30) rfl)) (hw _ (List.mem_of_getElem? (i := 4) rfl)) (by decide) (by decide)) (g := (mkF m 20 #[.val (.ref a1)] [(.ref cc), .null, (.ref b), (.ref b)])) rfl (by rw [hml]; rfl) (Steps.refl _) (a := b) (argsL := [.null, (.ref cc)]) (rest := [(.ref b)]) (lenOf pd_1 rfl) rfl (by show 2 * 0 + _ ≤ _; exact Nat.le_of_eq rfl) (hb hby d1_20) (fun _ _ => ⟨rfl, e126, (by decide : 4 + 0 ≤ _), (by decide : 30 + 0 ≤ _)⟩)
  dsimp only [Pt.U, Pt.locs, Pt.cells, Pt.slots] at X127 l127 y127 z127 st127 hQ127
  subst l127 y127 z127
  obtain ⟨rfl, N127q, K127, E127, F0127, F1127⟩ := hQ127
  have N127 := Fr.app N114 N127q
  have KF := K_123.trans K127 (allS (Or.inr (Nat.le_of_eq eq_b.symm)) all0)
  have VF := V_cc.keep K127 (ninS (Ne.symm ne_b_cc) nin0)
  have EF := E_cc.keep K127
  have Z128 : n0 ≤ T127.heap.size := Nat.le_trans Z124 (K127.1)
  have hk129 := Nat.le_trans hk125 (K127.1)
  have pre130 : ∀ t_, Steps p.tables e below (T127.setTop (mkF m 23 #[.val (.ref a1)] [(.ref b)])) t_ → Steps p.tables e below (s₁.setTop (entryFrame m #[(.ref a1)] 1)) t_ := fun t_ k_ => pre0 _ (by
    show Steps p.tables e below (s₁.setTop (mkF m 0 #[.val (.ref a1)] [])) _
    refine st101 _ ?_
    show Steps p.tables e below (T101.setTop (mkF m 3 #[.val (.ref a1)] [(.ref b)])) _
    refine XS.dup X101.here hx rfl (hb hby d1_3) rfl rfl ?_
    show Steps p.tables e below (T101.setTop (mkF m 4 #[.val (.ref a1)] [(.ref b), (.ref b)])) _
    refine XS.aconstNull X101.here hx rfl (hb hby d1_4) ?_
    show Steps p.tables e below (T101.setTop (mkF m 5 #[.val (.ref a1)] [.null, (.ref b), (.ref b)])) _
    refine XS.aloadN X101.here hx rfl (hb hby d1_5) rfl rfl ?_
    show Steps p.tables e below (T101.setTop (mkF m 6 #[.val (.ref a1)] [(.ref a1), .null, (.ref b), (.ref b)])) _
    refine st105 _ ?_
    show Steps p.tables e below (T105.setTop (mkF m 8 #[.val (.ref a1)] [(.ref st_), (.ref a1), .null, (.ref b), (.ref b)])) _
    refine st114 _ ?_
    show Steps p.tables e below (T114.setTop (mkF m 11 #[.val (.ref a1)] [(.ref a1), .null, (.ref b), (.ref b)])) _
    refine st115 _ ?_
    show Steps p.tables e below (T115.setTop (mkF m 14 #[.val (.ref a1)] [(.ref a1), .null, (.ref b), (.ref b)])) _
    refine st116 _ ?_
    show Steps p.tables e below (T116.setTop (mkF m 17 #[.val (.ref a1)] [(.ref cc), .null, (.ref b), (.ref b)])) _
    refine st126 _ ?_
    show Steps p.tables e below (T126.setTop (mkF m 20 #[.val (.ref a1)] [(.ref cc), .null, (.ref b), (.ref b)])) _
    refine st127.trans ?_
    exact k_)
  obtain ⟨fs, hr, hrun, hended, hWr, hW1, hW2, hsame⟩ := Jvm.Stand.leaveW (s := s) X127 hS105 (by exact hk129) (v := some (.ref b)) (fun h => by rw [Bd.returns] at h; cases h)
  refine ⟨_, _, pre130 _ ?_, hrun, hended, _, _, rfl, ?_, hWr, hW1, hW2, hsame.mono (by decide) (by decide)⟩
  · show Steps p.tables e below (T127.setTop (mkF m 23 #[.val (.ref a1)] [(.ref b)])) _
    jvm_step X127.here [X127.here.top, hx, (hb hby d1_23), X127.method', Bd.returns, Value.isRef, FieldType.isReference]
    first | (intro acts; rw [hr _ acts rfl rfl rfl]) | rw [hr _ _ rfl rfl rfl]
    exact Steps.refl _
  · show QrmO Z a1 kx nn vs h0 n0 _ T127.heap _
    exact ⟨b, cc, rfl, N127, KF, E127, F0127, F1127, VF, EF, Nat.le_of_eq eq_b.symm, hcc⟩
theorem d5_0 : decode prog_22_method_4_code 0 = .ok (.aload_n 0, 1) := by decide +kernel
theorem d5_1 : decode prog_22_method_4_code 1 = .ok (.getfield 7, 3) := by decide +kernel
theorem d5_4 : decode prog_22_method_4_code 4 = .ok (.ifnull 7, 3) := by decide +kernel
theorem d5_11 : decode prog_22_method_4_code 11 = .ok (.iconst 0, 1) := by decide +kernel
theorem d5_12 : decode prog_22_method_4_code 12 = .ok (.ireturn, 1) := by decide +kernel
theorem ef_rmI (m : MethodId) (x0 : Addr) : entryFrame m #[(.ref x0)] 1 = mkF m 0 #[.val (.ref x0)] [] := by first | (simp [entryFrame, mkF, argsToLocals, Value.category]; done) | rfl
def QrmI (Z : State) (a1 : Addr) (h0 : Heap) (n0 : Nat) (v : Option Value) (h : Heap) (L : List Loc) : Prop := v = some (.int 0) ∧ Fr n0 L ∧ h = h0
set_option maxRecDepth 65536 in
set_option maxHeartbeats 40000000 in
theorem rmI (l : Launch) (Z : State) (a0 : Array Value) (hw : ∀ d ∈ tables_1, d.before a0 Z = true) (ws : List Jvm.Cond) (a1 : Addr) (h0 : Heap) (n0 : Nat) (Z0 : n0 ≤ h0.size) (F0 : Fld Z h0 a1 "com/example/ledgerpost/ledgerpost/Payload" "text" "Ljava/lang/String;" .null) :
    MetFree l (⟨"com/example/ledgerpost/ledgerpost/Payload", "isText", "()Z"⟩ : MethodName) (head1 (Jvm.Cond.code (⟨"com/example/ledgerpost/ledgerpost/Payload", "isText", "()Z"⟩ : MethodName) prog_22_method_4_code 1 (some .boolean) :: ws) ({ frames := 0, cells := 0, slots := 0, locals := 0 } : Room)) (fun a U => a = #[(.ref a1)] ∧ Z.Warmed39 U.vm ∧ U.heap = h0) (fun _ _ _ _ _ => True) (fun _ U o U' => ∃ v L, o = .returned v ∧ QrmI Z a1 h0 n0 v U'.heap L ∧ FrameEnd U o U' L ({ frames := 0, cells := 0, slots := 0, locals := 0 } : Room).cells ({ frames := 0, cells := 0, slots := 0, locals := 0 } : Room).slots) := by
  refine MetFree.of_bodySF (plainFor_of_name pn_2) hisR ?_
  intro p e s m args below meth c s₁ Bd hml0 hP hK
  obtain ⟨rfl, hZ, hh⟩ := hP
  have hx := Bd.exec
  have hby := Bd.bytes
  have hml : c.maxLocals = 1 := hml0
  have hown : s.vm.findClass "com/example/ledgerpost/ledgerpost/Payload" = some m.cls := findClass_of_methodNamed Bd.named
  have hnm := (name_of_methodNamed Bd.named Bd.method).1
  have X0 : Stand p l e ({ frames := 0, cells := 0, slots := 0, locals := 0 } : Room) s m #[(.ref a1)] below meth c s₁ [] 0 0 := Stand.of_body Bd
  have e0 : s₁.heap = h0 := by rw [← hh, Bd.state]; rfl
  have N0 := Fr.nil n0
  have pre0 : ∀ t_, Steps p.tables e below (s₁.setTop (mkF m 0 #[.val (.ref a1)] [])) t_ → Steps p.tables e below (s₁.setTop (entryFrame m #[(.ref a1)] 1)) t_ := fun t_ k_ => castTop (ef_rmI m a1) k_
  obtain ⟨T101, X101, e101, st101⟩ := getF X0 hx hZ hown (host := "") (Or.inl (hw _ (List.mem_of_getElem? (i := 34) rfl))) Via.refl e0 F0 (g := (mkF m 1 #[.val (.ref a1)] [(.ref a1)])) rfl rfl (hb hby d5_1)
  have pre102 : ∀ t_, Steps p.tables e below (T101.setTop (mkF m 12 #[.val (.ref a1)] [(.int (0 : Int32))])) t_ → Steps p.tables e below (s₁.setTop (entryFrame m #[(.ref a1)] 1)) t_ := fun t_ k_ => pre0 _ (by
    show Steps p.tables e below (s₁.setTop (mkF m 0 #[.val (.ref a1)] [])) _
    refine XS.aloadN X0.here hx rfl (hb hby d5_0) rfl rfl ?_
    show Steps p.tables e below (s₁.setTop (mkF m 1 #[.val (.ref a1)] [(.ref a1)])) _
    refine st101 _ ?_
    show Steps p.tables e below (T101.setTop (mkF m 4 #[.val (.ref a1)] [.null])) _
    refine XS.ifnullYes X101.here hx rfl (pc0 := 4) (pc' := 11) rfl (hb hby d5_4) rfl (by decide) (by decide) ?_
    show Steps p.tables e below (T101.setTop (mkF m 11 #[.val (.ref a1)] [])) _
    refine XS.iconst X101.here hx rfl (hb hby d5_11) ?_
    exact k_)
  obtain ⟨fs, hr, hrun, hended, hW, hsame⟩ := X101.leave (v := some (.int (0 : Int32))) (fun h => by rw [Bd.returns] at h; cases h)
  refine ⟨_, _, pre102 _ ?_, hrun, hended, _, _, rfl, ?_, ⟨_, rfl⟩, hW, hsame.mono (by decide) (by decide)⟩
  · show Steps p.tables e below (T101.setTop (mkF m 12 #[.val (.ref a1)] [(.int (0 : Int32))])) _
    exact retN X101 hx (t := .boolean) Bd.returns (by simp) (hb hby d5_12) hr
  · show QrmI Z a1 h0 n0 _ T101.heap _
    rw [e101]
    exact ⟨rfl, N0, rfl⟩
theorem d6_0 : decode prog_22_method_5_code 0 = .ok (.aload_n 0, 1) := by decide +kernel
theorem d6_1 : decode prog_22_method_5_code 1 = .ok (.getfield 7, 3) := by decide +kernel
theorem d6_4 : decode prog_22_method_5_code 4 = .ok (.areturn, 1) := by decide +kernel
theorem ef_rmT (m : MethodId) (x0 : Addr) : entryFrame m #[(.ref x0)] 1 = mkF m 0 #[.val (.ref x0)] [] := by first | (simp [entryFrame, mkF, argsToLocals, Value.category]; done) | rfl
def QrmT (Z : State) (a1 : Addr) (h0 : Heap) (n0 : Nat) (v : Option Value) (h : Heap) (L : List Loc) : Prop := v = some .null ∧ Fr n0 L ∧ h = h0
set_option maxRecDepth 65536 in
set_option maxHeartbeats 40000000 in
theorem rmT (l : Launch) (Z : State) (a0 : Array Value) (hw : ∀ d ∈ tables_1, d.before a0 Z = true) (ws : List Jvm.Cond) (a1 : Addr) (h0 : Heap) (n0 : Nat) (Z0 : n0 ≤ h0.size) (F0 : Fld Z h0 a1 "com/example/ledgerpost/ledgerpost/Payload" "text" "Ljava/lang/String;" .null) :
    MetFree l (⟨"com/example/ledgerpost/ledgerpost/Payload", "text", "()Ljava/lang/String;"⟩ : MethodName) (head1 (Jvm.Cond.code (⟨"com/example/ledgerpost/ledgerpost/Payload", "text", "()Ljava/lang/String;"⟩ : MethodName) prog_22_method_5_code 1 (some (.object "java/lang/String")) :: ws) ({ frames := 0, cells := 0, slots := 0, locals := 0 } : Room)) (fun a U => a = #[(.ref a1)] ∧ Z.Warmed39 U.vm ∧ U.heap = h0) (fun _ _ _ _ _ => True) (fun _ U o U' => ∃ v L, o = .returned v ∧ QrmT Z a1 h0 n0 v U'.heap L ∧ FrameEnd U o U' L ({ frames := 0, cells := 0, slots := 0, locals := 0 } : Room).cells ({ frames := 0, cells := 0, slots := 0, locals := 0 } : Room).slots) := by
  refine MetFree.of_bodySF (plainFor_of_name pn_2) hisR ?_
  intro p e s m args below meth c s₁ Bd hml0 hP hK
  obtain ⟨rfl, hZ, hh⟩ := hP
  have hx := Bd.exec
  have hby := Bd.bytes
  have hml : c.maxLocals = 1 := hml0
  have hown : s.vm.findClass "com/example/ledgerpost/ledgerpost/Payload" = some m.cls := findClass_of_methodNamed Bd.named
  have hnm := (name_of_methodNamed Bd.named Bd.method).1
  have X0 : Stand p l e ({ frames := 0, cells := 0, slots := 0, locals := 0 } : Room) s m #[(.ref a1)] below meth c s₁ [] 0 0 := Stand.of_body Bd
  have e0 : s₁.heap = h0 := by rw [← hh, Bd.state]; rfl
  have N0 := Fr.nil n0
  have pre0 : ∀ t_, Steps p.tables e below (s₁.setTop (mkF m 0 #[.val (.ref a1)] [])) t_ → Steps p.tables e below (s₁.setTop (entryFrame m #[(.ref a1)] 1)) t_ := fun t_ k_ => castTop (ef_rmT m a1) k_
  obtain ⟨T101, X101, e101, st101⟩ := getF X0 hx hZ hown (host := "") (Or.inl (hw _ (List.mem_of_getElem? (i := 34) rfl))) Via.refl e0 F0 (g := (mkF m 1 #[.val (.ref a1)] [(.ref a1)])) rfl rfl (hb hby d6_1)
  have pre102 : ∀ t_, Steps p.tables e below (T101.setTop (mkF m 4 #[.val (.ref a1)] [.null])) t_ → Steps p.tables e below (s₁.setTop (entryFrame m #[(.ref a1)] 1)) t_ := fun t_ k_ => pre0 _ (by
    show Steps p.tables e below (s₁.setTop (mkF m 0 #[.val (.ref a1)] [])) _
    refine XS.aloadN X0.here hx rfl (hb hby d6_0) rfl rfl ?_
    show Steps p.tables e below (s₁.setTop (mkF m 1 #[.val (.ref a1)] [(.ref a1)])) _
    refine st101 _ ?_
    exact k_)
  obtain ⟨fs, hr, hrun, hended, hW, hsame⟩ := X101.leave (v := some .null) (fun h => by rw [Bd.returns] at h; cases h)
  refine ⟨_, _, pre102 _ ?_, hrun, hended, _, _, rfl, ?_, ⟨_, rfl⟩, hW, hsame.mono (by decide) (by decide)⟩
  · show Steps p.tables e below (T101.setTop (mkF m 4 #[.val (.ref a1)] [.null])) _
    jvm_step X101.here [X101.here.top, hx, (hb hby d6_4), X101.method', Bd.returns, Value.isRef, FieldType.isReference]
    first | (intro acts; rw [hr _ acts rfl rfl rfl]) | rw [hr _ _ rfl rfl rfl]
    exact Steps.refl _
  · show QrmT Z a1 h0 n0 _ T101.heap _
    rw [e101]
    exact ⟨rfl, N0, rfl⟩
theorem d7_0 : decode prog_22_method_7_code 0 = .ok (.aload_n 0, 1) := by decide +kernel
theorem d7_1 : decode prog_22_method_7_code 1 = .ok (.getfield 7, 3) := by decide +kernel
theorem d7_4 : decode prog_22_method_7_code 4 = .ok (.ifnull 14, 3) := by decide +kernel
theorem d7_18 : decode prog_22_method_7_code 18 = .ok (.aload_n 0, 1) := by decide +kernel
theorem d7_19 : decode prog_22_method_7_code 19 = .ok (.getfield 13, 3) := by decide +kernel
theorem d7_22 : decode prog_22_method_7_code 22 = .ok (.arraylength, 1) := by decide +kernel
theorem d7_23 : decode prog_22_method_7_code 23 = .ok (.i2l, 1) := by decide +kernel
theorem d7_24 : decode prog_22_method_7_code 24 = .ok (.lreturn, 1) := by decide +kernel
theorem ef_rmL (m : MethodId) (x0 : Addr) : entryFrame m #[(.ref x0)] 1 = mkF m 0 #[.val (.ref x0)] [] := by first | (simp [entryFrame, mkF, argsToLocals, Value.category]; done) | rfl
def QrmL (Z : State) (a1 : Addr) (cc : Addr) (kx : ClassId) (nn : Int32) (vs : List Value) (h0 : Heap) (n0 : Nat) (v : Option Value) (h : Heap) (L : List Loc) : Prop := v = some (.long (nn.toInt64)) ∧ Fr n0 L ∧ h = h0
set_option maxRecDepth 65536 in
set_option maxHeartbeats 40000000 in
theorem rmL (l : Launch) (Z : State) (a0 : Array Value) (hw : ∀ d ∈ tables_1, d.before a0 Z = true) (ws : List Jvm.Cond) (a1 : Addr) (cc : Addr) (kx : ClassId) (nn : Int32) (vs : List Value) (h0 : Heap) (n0 : Nat) (Z0 : n0 ≤ h0.size) (F0 : Fld Z h0 a1 "com/example/ledgerpost/ledgerpost/Payload" "text" "Ljava/lang/String;" .null) (F1 : Fld Z h0 a1 "com/example/ledgerpost/ledgerpost/Payload" "bytes" "[B" (.ref cc)) (V : Arv Z h0 cc kx .byte nn vs (.int (0 : Int32))) :
    MetFree l (⟨"com/example/ledgerpost/ledgerpost/Payload", "length", "()J"⟩ : MethodName) (head1 (Jvm.Cond.code (⟨"com/example/ledgerpost/ledgerpost/Payload", "length", "()J"⟩ : MethodName) prog_22_method_7_code 1 (some .long) :: ws) ({ frames := 0, cells := 0, slots := 0, locals := 0 } : Room)) (fun a U => a = #[(.ref a1)] ∧ Z.Warmed39 U.vm ∧ U.heap = h0) (fun _ _ _ _ _ => True) (fun _ U o U' => ∃ v L, o = .returned v ∧ QrmL Z a1 cc kx nn vs h0 n0 v U'.heap L ∧ FrameEnd U o U' L ({ frames := 0, cells := 0, slots := 0, locals := 0 } : Room).cells ({ frames := 0, cells := 0, slots := 0, locals := 0 } : Room).slots) := by
  refine MetFree.of_bodySF (plainFor_of_name pn_2) hisR ?_
  intro p e s m args below meth c s₁ Bd hml0 hP hK
  obtain ⟨rfl, hZ, hh⟩ := hP
  have hx := Bd.exec
  have hby := Bd.bytes
  have hml : c.maxLocals = 1 := hml0
  have hown : s.vm.findClass "com/example/ledgerpost/ledgerpost/Payload" = some m.cls := findClass_of_methodNamed Bd.named
  have hnm := (name_of_methodNamed Bd.named Bd.method).1
  have X0 : Stand p l e ({ frames := 0, cells := 0, slots := 0, locals := 0 } : Room) s m #[(.ref a1)] below meth c s₁ [] 0 0 := Stand.of_body Bd
  have e0 : s₁.heap = h0 := by rw [← hh, Bd.state]; rfl
  have N0 := Fr.nil n0
  have pre0 : ∀ t_, Steps p.tables e below (s₁.setTop (mkF m 0 #[.val (.ref a1)] [])) t_ → Steps p.tables e below (s₁.setTop (entryFrame m #[(.ref a1)] 1)) t_ := fun t_ k_ => castTop (ef_rmL m a1) k_
  obtain ⟨T101, X101, e101, st101⟩ := getF X0 hx hZ hown (host := "") (Or.inl (hw _ (List.mem_of_getElem? (i := 34) rfl))) Via.refl e0 F0 (g := (mkF m 1 #[.val (.ref a1)] [(.ref a1)])) rfl rfl (hb hby d7_1)
  obtain ⟨T102, X102, e102, st102⟩ := getF X101 hx hZ hown (host := "") (Or.inl (hw _ (List.mem_of_getElem? (i := 36) rfl))) Via.refl e101 F1 (g := (mkF m 19 #[.val (.ref a1)] [(.ref a1)])) rfl rfl (hb hby d7_19)
  obtain ⟨cl, Ar, -, Sz, Ng, -, -⟩ := V
  have pre103 : ∀ t_, Steps p.tables e below (T102.setTop (mkF m 24 #[.val (.ref a1)] [(.long (nn.toInt64))])) t_ → Steps p.tables e below (s₁.setTop (entryFrame m #[(.ref a1)] 1)) t_ := fun t_ k_ => pre0 _ (by
    show Steps p.tables e below (s₁.setTop (mkF m 0 #[.val (.ref a1)] [])) _
    refine XS.aloadN X0.here hx rfl (hb hby d7_0) rfl rfl ?_
    show Steps p.tables e below (s₁.setTop (mkF m 1 #[.val (.ref a1)] [(.ref a1)])) _
    refine st101 _ ?_
    show Steps p.tables e below (T101.setTop (mkF m 4 #[.val (.ref a1)] [.null])) _
    refine XS.ifnullYes X101.here hx rfl (pc0 := 4) (pc' := 18) rfl (hb hby d7_4) rfl (by decide) (by decide) ?_
    show Steps p.tables e below (T101.setTop (mkF m 18 #[.val (.ref a1)] [])) _
    refine XS.aloadN X101.here hx rfl (hb hby d7_18) rfl rfl ?_
    show Steps p.tables e below (T101.setTop (mkF m 19 #[.val (.ref a1)] [(.ref a1)])) _
    refine st102 _ ?_
    show Steps p.tables e below (T102.setTop (mkF m 22 #[.val (.ref a1)] [(.ref cc)])) _
    refine X102.arraylength hx (by rw [e102]; exact Ar.1) (State.isArrayOf_alike hZ.alike Ar.2.1) (g := (mkF m 22 #[.val (.ref a1)] [(.ref cc)])) rfl rfl (hb hby d7_22) _ ?_
    rw [len_of Sz Ng]
    show Steps p.tables e below (T102.setTop (mkF m 23 #[.val (.ref a1)] [(.int nn)])) _
    refine XS.i2l X102.here hx rfl (hb hby d7_23) rfl ?_
    exact k_)
  obtain ⟨fs, hr, hrun, hended, hW, hsame⟩ := X102.leave (v := some (.long (nn.toInt64))) (fun h => by rw [Bd.returns] at h; cases h)
  refine ⟨_, _, pre103 _ ?_, hrun, hended, _, _, rfl, ?_, ⟨_, rfl⟩, hW, hsame.mono (by decide) (by decide)⟩
  · show Steps p.tables e below (T102.setTop (mkF m 24 #[.val (.ref a1)] [(.long (nn.toInt64))])) _
    exact retJ X102 hx Bd.returns (hb hby d7_24) hr
  · show QrmL Z a1 cc kx nn vs h0 n0 _ T102.heap _
    rw [e102]
    exact ⟨rfl, N0, rfl⟩
theorem d8_0 : decode prog_22_method_6_code 0 = .ok (.aload_n 0, 1) := by decide +kernel
theorem d8_1 : decode prog_22_method_6_code 1 = .ok (.getfield 7, 3) := by decide +kernel
theorem d8_4 : decode prog_22_method_6_code 4 = .ok (.ifnull 16, 3) := by decide +kernel
theorem d8_20 : decode prog_22_method_6_code 20 = .ok (.aload_n 0, 1) := by decide +kernel
theorem d8_21 : decode prog_22_method_6_code 21 = .ok (.getfield 13, 3) := by decide +kernel
theorem d8_24 : decode prog_22_method_6_code 24 = .ok (.invokevirtual 31, 3) := by decide +kernel
theorem d8_27 : decode prog_22_method_6_code 27 = .ok (.checkcast 30, 3) := by decide +kernel
theorem d8_30 : decode prog_22_method_6_code 30 = .ok (.areturn, 1) := by decide +kernel
theorem ef_rmB (m : MethodId) (x0 : Addr) : entryFrame m #[(.ref x0)] 1 = mkF m 0 #[.val (.ref x0)] [] := by first | (simp [entryFrame, mkF, argsToLocals, Value.category]; done) | rfl
def QrmB (Z : State) (a1 : Addr) (cc : Addr) (kx : ClassId) (nn : Int32) (vs : List Value) (h0 : Heap) (n0 : Nat) (v : Option Value) (h : Heap) (L : List Loc) : Prop := ∃ x : Addr, v = some (.ref x) ∧ Fr n0 L ∧ Keep h0 h [] ∧ Arv Z h x kx .byte nn vs (.int (0 : Int32)) ∧ h0.size ≤ x ∧ n0 ≤ x
set_option maxRecDepth 65536 in
set_option maxHeartbeats 40000000 in
theorem rmB (l : Launch) (Z : State) (a0 : Array Value) (hw : ∀ d ∈ tables_1, d.before a0 Z = true) (ws : List Jvm.Cond) (a1 : Addr) (cc : Addr) (kx : ClassId) (nn : Int32) (vs : List Value) (h0 : Heap) (n0 : Nat) (Z0 : n0 ≤ h0.size) (F0 : Fld Z h0 a1 "com/example/ledgerpost/ledgerpost/Payload" "text" "Ljava/lang/String;" .null) (F1 : Fld Z h0 a1 "com/example/ledgerpost/ledgerpost/Payload" "bytes" "[B" (.ref cc)) (V : Arv Z h0 cc kx .byte nn vs (.int (0 : Int32))) (E_c : Exa Z h0 cc "[B") (hz : nn.toNatClampNeg ≤ 4) :
    MetFree l (⟨"com/example/ledgerpost/ledgerpost/Payload", "bytes", "()[B"⟩ : MethodName) (head1 (Jvm.Cond.code (⟨"com/example/ledgerpost/ledgerpost/Payload", "bytes", "()[B"⟩ : MethodName) prog_22_method_6_code 1 (some (.array .byte)) :: ws) ({ frames := 1, cells := 1, slots := 4, locals := 14 } : Room)) (fun a U => a = #[(.ref a1)] ∧ Z.Warmed39 U.vm ∧ U.heap = h0) (fun _ _ _ _ _ => True) (fun _ U o U' => ∃ v L, o = .returned v ∧ QrmB Z a1 cc kx nn vs h0 n0 v U'.heap L ∧ FrameEnd U o U' L ({ frames := 1, cells := 1, slots := 4, locals := 14 } : Room).cells ({ frames := 1, cells := 1, slots := 4, locals := 14 } : Room).slots) := by
  refine MetFree.of_bodySF (plainFor_of_name pn_2) hisR ?_
  intro p e s m args below meth c s₁ Bd hml0 hP hK
  obtain ⟨rfl, hZ, hh⟩ := hP
  have hx := Bd.exec
  have hby := Bd.bytes
  have hml : c.maxLocals = 1 := hml0
  have hown : s.vm.findClass "com/example/ledgerpost/ledgerpost/Payload" = some m.cls := findClass_of_methodNamed Bd.named
  have hnm := (name_of_methodNamed Bd.named Bd.method).1
  have X0 : Stand p l e ({ frames := 1, cells := 1, slots := 4, locals := 14 } : Room) s m #[(.ref a1)] below meth c s₁ [] 0 0 := Stand.of_body Bd
  have e0 : s₁.heap = h0 := by rw [← hh, Bd.state]; rfl
  have N0 := Fr.nil n0
  have pre0 : ∀ t_, Steps p.tables e below (s₁.setTop (mkF m 0 #[.val (.ref a1)] [])) t_ → Steps p.tables e below (s₁.setTop (entryFrame m #[(.ref a1)] 1)) t_ := fun t_ k_ => castTop (ef_rmB m a1) k_
  obtain ⟨T101, X101, e101, st101⟩ := getF X0 hx hZ hown (host := "") (Or.inl (hw _ (List.mem_of_getElem? (i := 34) rfl))) Via.refl e0 F0 (g := (mkF m 1 #[.val (.ref a1)] [(.ref a1)])) rfl rfl (hb hby d8_1)
  obtain ⟨T102, X102, e102, st102⟩ := getF X101 hx hZ hown (host := "") (Or.inl (hw _ (List.mem_of_getElem? (i := 36) rfl))) Via.refl e101 F1 (g := (mkF m 21 #[.val (.ref a1)] [(.ref a1)])) rfl rfl (hb hby d8_21)
  obtain ⟨T103, h103, X103, e103, Ext_x, V_x, E_x, st103⟩ := cloneH X102 hx hZ hown (hw _ (List.mem_of_getElem? (i := 21) rfl)) (hw _ (List.mem_of_getElem? (i := 22) rfl)) (hw _ (List.mem_of_getElem? (i := 26) rfl)) (hw _ (List.mem_of_getElem? (i := 24) rfl)) (hw _ (List.mem_of_getElem? (i := 25) rfl)) (hw _ (List.mem_of_getElem? (i := 27) rfl)) e102 (Arv.arh V) E_c (g := (mkF m 24 #[.val (.ref a1)] [(.ref cc)])) rfl (by rw [hml]; rfl) rfl (hb hby d8_24) (by decide) (W := 0) (cap := 4) (by show 2 * 0 + _ ≤ _; exact Nat.le_of_eq rfl) (by decide) hz (by decide) (by decide)
  obtain ⟨x, eq_x⟩ : ∃ z, z = h0.size := ⟨_, rfl⟩
  rw [← eq_x] at V_x E_x st103
  have g_x : n0 ≤ x := Nat.le_trans Z0 (Nat.le_of_eq eq_x.symm)
  have ne_cc_x : cc ≠ x := Nat.ne_of_lt (Nat.lt_of_lt_of_le V.lt (Nat.le_of_eq eq_x.symm))
  have V_104 := V.ext Ext_x
  have Ec_105 := E_c.ext Ext_x
  have Z106 : n0 ≤ h103.size := Nat.le_trans Z0 (Ext_x.1)
  obtain ⟨T107, X107, e107, st107⟩ := castY X103 hx hZ hown (hw _ (List.mem_of_getElem? (i := 19) rfl)) e103 (Ins.self E_x) (g := (mkF m 27 #[.val (.ref a1)] [(.ref x)])) rfl rfl (hb hby d8_27)
  have pre108 : ∀ t_, Steps p.tables e below (T107.setTop (mkF m 30 #[.val (.ref a1)] [(.ref x)])) t_ → Steps p.tables e below (s₁.setTop (entryFrame m #[(.ref a1)] 1)) t_ := fun t_ k_ => pre0 _ (by
    show Steps p.tables e below (s₁.setTop (mkF m 0 #[.val (.ref a1)] [])) _
    refine XS.aloadN X0.here hx rfl (hb hby d8_0) rfl rfl ?_
    show Steps p.tables e below (s₁.setTop (mkF m 1 #[.val (.ref a1)] [(.ref a1)])) _
    refine st101 _ ?_
    show Steps p.tables e below (T101.setTop (mkF m 4 #[.val (.ref a1)] [.null])) _
    refine XS.ifnullYes X101.here hx rfl (pc0 := 4) (pc' := 20) rfl (hb hby d8_4) rfl (by decide) (by decide) ?_
    show Steps p.tables e below (T101.setTop (mkF m 20 #[.val (.ref a1)] [])) _
    refine XS.aloadN X101.here hx rfl (hb hby d8_20) rfl rfl ?_
    show Steps p.tables e below (T101.setTop (mkF m 21 #[.val (.ref a1)] [(.ref a1)])) _
    refine st102 _ ?_
    show Steps p.tables e below (T102.setTop (mkF m 24 #[.val (.ref a1)] [(.ref cc)])) _
    refine st103 _ ?_
    show Steps p.tables e below (T103.setTop (mkF m 27 #[.val (.ref a1)] [(.ref x)])) _
    refine st107 _ ?_
    exact k_)
  obtain ⟨fs, hr, hrun, hended, hW, hsame⟩ := X107.leave (v := some (.ref x)) (fun h => by rw [Bd.returns] at h; cases h)
  refine ⟨_, _, pre108 _ ?_, hrun, hended, _, _, rfl, ?_, ⟨_, rfl⟩, hW, hsame.mono (by decide) (by decide)⟩
  · show Steps p.tables e below (T107.setTop (mkF m 30 #[.val (.ref a1)] [(.ref x)])) _
    jvm_step X107.here [X107.here.top, hx, (hb hby d8_30), X107.method', Bd.returns, Value.isRef, FieldType.isReference]
    first | (intro acts; rw [hr _ acts rfl rfl rfl]) | rw [hr _ _ rfl rfl rfl]
    exact Steps.refl _
  · show QrmB Z a1 cc kx nn vs h0 n0 _ T107.heap _
    rw [e107]
    exact ⟨x, rfl, N0, (Keep.refl h0 []).ext Ext_x, V_x, Nat.le_of_eq eq_x.symm, g_x⟩
theorem d9_0 : decode method_3_code 0 = .ok (.aload_n 0, 1) := by decide +kernel
theorem d9_1 : decode method_3_code 1 = .ok (.ifnull 9, 3) := by decide +kernel
theorem d9_4 : decode method_3_code 4 = .ok (.aload_n 0, 1) := by decide +kernel
theorem d9_5 : decode method_3_code 5 = .ok (.arraylength, 1) := by decide +kernel
theorem d9_6 : decode method_3_code 6 = .ok (.iload_n 1, 1) := by decide +kernel
theorem d9_7 : decode method_3_code 7 = .ok (.if_icmp .eq 5, 3) := by decide +kernel
theorem d9_12 : decode method_3_code 12 = .ok (.iload_n 1, 1) := by decide +kernel
theorem d9_13 : decode method_3_code 13 = .ok (.ifCond .le 16, 3) := by decide +kernel
theorem d9_29 : decode method_3_code 29 = .ok (.iload_n 1, 1) := by decide +kernel
theorem d9_30 : decode method_3_code 30 = .ok (.iconst 1, 1) := by decide +kernel
theorem d9_31 : decode method_3_code 31 = .ok (.if_icmp .le 16, 3) := by decide +kernel
theorem d9_47 : decode method_3_code 47 = .ok (.iload_n 1, 1) := by decide +kernel
theorem d9_48 : decode method_3_code 48 = .ok (.iconst 2, 1) := by decide +kernel
theorem d9_49 : decode method_3_code 49 = .ok (.if_icmp .le 16, 3) := by decide +kernel
theorem d9_65 : decode method_3_code 65 = .ok (.iload_n 1, 1) := by decide +kernel
theorem d9_66 : decode method_3_code 66 = .ok (.iconst 3, 1) := by decide +kernel
theorem d9_67 : decode method_3_code 67 = .ok (.if_icmp .le 16, 3) := by decide +kernel
theorem d9_83 : decode method_3_code 83 = .ok (.iconst 1, 1) := by decide +kernel
theorem d9_84 : decode method_3_code 84 = .ok (.ireturn, 1) := by decide +kernel
theorem ef_rmH0 (m : MethodId) (x0 : Addr) (x1 : Int32) (x2 : Int32) : entryFrame m #[(.ref x0), (.int x1), (.int x2)] 3 = mkF m 0 #[.val (.ref x0), .val (.int x1), .val (.int x2)] [] := by first | (simp [entryFrame, mkF, argsToLocals, Value.category]; done) | rfl
def QrmH0 (Z : State) (a1 : Addr) (p3 : Int32) (kx : ClassId) (h0 : Heap) (n0 : Nat) (v : Option Value) (h : Heap) (L : List Loc) : Prop := v = some (.int 1) ∧ Fr n0 L ∧ h = h0
set_option maxRecDepth 65536 in
set_option maxHeartbeats 40000000 in
theorem rmH0 (l : Launch) (Z : State) (a0 : Array Value) (hw : ∀ d ∈ tables_1, d.before a0 Z = true) (ws : List Jvm.Cond) (a1 : Addr) (p3 : Int32) (kx : ClassId) (h0 : Heap) (n0 : Nat) (Z0 : n0 ≤ h0.size) (V : Arv Z h0 a1 kx .byte (0 : Int32) [] (.int (0 : Int32))) :
    MetFree l (⟨"com/example/ledgerpost/ledgerpost/PayloadOfBytesPinLaw", "holds", "([BII)Z"⟩ : MethodName) (head1 (Jvm.Cond.code (⟨"com/example/ledgerpost/ledgerpost/PayloadOfBytesPinLaw", "holds", "([BII)Z"⟩ : MethodName) method_3_code 3 (some .boolean) :: ws) ({ frames := 0, cells := 0, slots := 0, locals := 0 } : Room)) (fun a U => a = #[(.ref a1), (.int (0 : Int32)), (.int p3)] ∧ Z.Warmed39 U.vm ∧ U.heap = h0) (fun _ _ _ _ _ => True) (fun _ U o U' => ∃ v L, o = .returned v ∧ QrmH0 Z a1 p3 kx h0 n0 v U'.heap L ∧ FrameEnd U o U' L ({ frames := 0, cells := 0, slots := 0, locals := 0 } : Room).cells ({ frames := 0, cells := 0, slots := 0, locals := 0 } : Room).slots) := by
  refine MetFree.of_bodySF (plainFor_of_name pn_0) hisR ?_
  intro p e s m args below meth c s₁ Bd hml0 hP hK
  obtain ⟨rfl, hZ, hh⟩ := hP
  have hx := Bd.exec
  have hby := Bd.bytes
  have hml : c.maxLocals = 3 := hml0
  have hown : s.vm.findClass "com/example/ledgerpost/ledgerpost/PayloadOfBytesPinLaw" = some m.cls := findClass_of_methodNamed Bd.named
  have hnm := (name_of_methodNamed Bd.named Bd.method).1
  have X0 : Stand p l e ({ frames := 0, cells := 0, slots := 0, locals := 0 } : Room) s m #[(.ref a1), (.int (0 : Int32)), (.int p3)] below meth c s₁ [] 0 0 := Stand.of_body Bd
  have e0 : s₁.heap = h0 := by rw [← hh, Bd.state]; rfl
  have N0 := Fr.nil n0
  have pre0 : ∀ t_, Steps p.tables e below (s₁.setTop (mkF m 0 #[.val (.ref a1), .val (.int (0 : Int32)), .val (.int p3)] [])) t_ → Steps p.tables e below (s₁.setTop (entryFrame m #[(.ref a1), (.int (0 : Int32)), (.int p3)] 3)) t_ := fun t_ k_ => castTop (ef_rmH0 m a1 ((0 : Int32)) p3) k_
  obtain ⟨cl, Ar, -, Sz, Ng, Hs, -⟩ := V
  have pre101 : ∀ t_, Steps p.tables e below (s₁.setTop (mkF m 84 #[.val (.ref a1), .val (.int (0 : Int32)), .val (.int p3)] [(.int (1 : Int32))])) t_ → Steps p.tables e below (s₁.setTop (entryFrame m #[(.ref a1), (.int (0 : Int32)), (.int p3)] 3)) t_ := fun t_ k_ => pre0 _ (by
    show Steps p.tables e below (s₁.setTop (mkF m 0 #[.val (.ref a1), .val (.int (0 : Int32)), .val (.int p3)] [])) _
    refine XS.aloadN X0.here hx rfl (hb hby d9_0) rfl rfl ?_
    show Steps p.tables e below (s₁.setTop (mkF m 1 #[.val (.ref a1), .val (.int (0 : Int32)), .val (.int p3)] [(.ref a1)])) _
    refine XS.ifnullNo X0.here hx rfl (hb hby d9_1) rfl ?_
    show Steps p.tables e below (s₁.setTop (mkF m 4 #[.val (.ref a1), .val (.int (0 : Int32)), .val (.int p3)] [])) _
    refine XS.aloadN X0.here hx rfl (hb hby d9_4) rfl rfl ?_
    show Steps p.tables e below (s₁.setTop (mkF m 5 #[.val (.ref a1), .val (.int (0 : Int32)), .val (.int p3)] [(.ref a1)])) _
    refine X0.arraylength hx (by rw [e0]; exact Ar.1) (State.isArrayOf_alike hZ.alike Ar.2.1) (g := (mkF m 5 #[.val (.ref a1), .val (.int (0 : Int32)), .val (.int p3)] [(.ref a1)])) rfl rfl (hb hby d9_5) _ ?_
    rw [len_of Sz Ng]
    show Steps p.tables e below (s₁.setTop (mkF m 6 #[.val (.ref a1), .val (.int (0 : Int32)), .val (.int p3)] [(.int (0 : Int32))])) _
    refine XS.iloadN X0.here hx rfl (hb hby d9_6) rfl ?_
    show Steps p.tables e below (s₁.setTop (mkF m 7 #[.val (.ref a1), .val (.int (0 : Int32)), .val (.int p3)] [(.int (0 : Int32)), (.int (0 : Int32))])) _
    refine XS.icmpYes X0.here hx rfl (pc0 := 7) (pc' := 12) rfl (hb hby d9_7) rfl (teq rfl).1 (by decide) (by decide) ?_
    show Steps p.tables e below (s₁.setTop (mkF m 12 #[.val (.ref a1), .val (.int (0 : Int32)), .val (.int p3)] [])) _
    refine XS.iloadN X0.here hx rfl (hb hby d9_12) rfl ?_
    show Steps p.tables e below (s₁.setTop (mkF m 13 #[.val (.ref a1), .val (.int (0 : Int32)), .val (.int p3)] [(.int (0 : Int32))])) _
    refine XS.ifYes X0.here hx rfl (pc0 := 13) (pc' := 29) rfl (hb hby d9_13) rfl ((if0 _ _).trans (flt (by decide)).2.2.2) (by decide) (by decide) ?_
    show Steps p.tables e below (s₁.setTop (mkF m 29 #[.val (.ref a1), .val (.int (0 : Int32)), .val (.int p3)] [])) _
    refine XS.iloadN X0.here hx rfl (hb hby d9_29) rfl ?_
    show Steps p.tables e below (s₁.setTop (mkF m 30 #[.val (.ref a1), .val (.int (0 : Int32)), .val (.int p3)] [(.int (0 : Int32))])) _
    refine XS.iconst X0.here hx rfl (hb hby d9_30) ?_
    show Steps p.tables e below (s₁.setTop (mkF m 31 #[.val (.ref a1), .val (.int (0 : Int32)), .val (.int p3)] [(.int (1 : Int32)), (.int (0 : Int32))])) _
    refine XS.icmpYes X0.here hx rfl (pc0 := 31) (pc' := 47) rfl (hb hby d9_31) rfl (flt (by decide)).2.2.2 (by decide) (by decide) ?_
    show Steps p.tables e below (s₁.setTop (mkF m 47 #[.val (.ref a1), .val (.int (0 : Int32)), .val (.int p3)] [])) _
    refine XS.iloadN X0.here hx rfl (hb hby d9_47) rfl ?_
    show Steps p.tables e below (s₁.setTop (mkF m 48 #[.val (.ref a1), .val (.int (0 : Int32)), .val (.int p3)] [(.int (0 : Int32))])) _
    refine XS.iconst X0.here hx rfl (hb hby d9_48) ?_
    show Steps p.tables e below (s₁.setTop (mkF m 49 #[.val (.ref a1), .val (.int (0 : Int32)), .val (.int p3)] [(.int (2 : Int32)), (.int (0 : Int32))])) _
    refine XS.icmpYes X0.here hx rfl (pc0 := 49) (pc' := 65) rfl (hb hby d9_49) rfl (flt (by decide)).2.2.2 (by decide) (by decide) ?_
    show Steps p.tables e below (s₁.setTop (mkF m 65 #[.val (.ref a1), .val (.int (0 : Int32)), .val (.int p3)] [])) _
    refine XS.iloadN X0.here hx rfl (hb hby d9_65) rfl ?_
    show Steps p.tables e below (s₁.setTop (mkF m 66 #[.val (.ref a1), .val (.int (0 : Int32)), .val (.int p3)] [(.int (0 : Int32))])) _
    refine XS.iconst X0.here hx rfl (hb hby d9_66) ?_
    show Steps p.tables e below (s₁.setTop (mkF m 67 #[.val (.ref a1), .val (.int (0 : Int32)), .val (.int p3)] [(.int (3 : Int32)), (.int (0 : Int32))])) _
    refine XS.icmpYes X0.here hx rfl (pc0 := 67) (pc' := 83) rfl (hb hby d9_67) rfl (flt (by decide)).2.2.2 (by decide) (by decide) ?_
    show Steps p.tables e below (s₁.setTop (mkF m 83 #[.val (.ref a1), .val (.int (0 : Int32)), .val (.int p3)] [])) _
    refine XS.iconst X0.here hx rfl (hb hby d9_83) ?_
    exact k_)
  obtain ⟨fs, hr, hrun, hended, hW, hsame⟩ := X0.leave (v := some (.int (1 : Int32))) (fun h => by rw [Bd.returns] at h; cases h)
  refine ⟨_, _, pre101 _ ?_, hrun, hended, _, _, rfl, ?_, ⟨_, rfl⟩, hW, hsame.mono (by decide) (by decide)⟩
  · show Steps p.tables e below (s₁.setTop (mkF m 84 #[.val (.ref a1), .val (.int (0 : Int32)), .val (.int p3)] [(.int (1 : Int32))])) _
    exact retN X0 hx (t := .boolean) Bd.returns (by simp) (hb hby d9_84) hr
  · show QrmH0 Z a1 p3 kx h0 n0 _ s₁.heap _
    rw [e0]
    exact ⟨rfl, N0, rfl⟩
theorem d10_0 : decode method_4_code 0 = .ok (.iload_n 1, 1) := by decide +kernel
theorem d10_1 : decode method_4_code 1 = .ok (.ifCond .le 12, 3) := by decide +kernel
theorem d10_13 : decode method_4_code 13 = .ok (.iload_n 1, 1) := by decide +kernel
theorem d10_14 : decode method_4_code 14 = .ok (.iconst 1, 1) := by decide +kernel
theorem d10_15 : decode method_4_code 15 = .ok (.if_icmp .le 12, 3) := by decide +kernel
theorem d10_27 : decode method_4_code 27 = .ok (.iload_n 1, 1) := by decide +kernel
theorem d10_28 : decode method_4_code 28 = .ok (.iconst 2, 1) := by decide +kernel
theorem d10_29 : decode method_4_code 29 = .ok (.if_icmp .le 12, 3) := by decide +kernel
theorem d10_41 : decode method_4_code 41 = .ok (.iload_n 1, 1) := by decide +kernel
theorem d10_42 : decode method_4_code 42 = .ok (.iconst 3, 1) := by decide +kernel
theorem d10_43 : decode method_4_code 43 = .ok (.if_icmp .le 12, 3) := by decide +kernel
theorem d10_55 : decode method_4_code 55 = .ok (.return_, 1) := by decide +kernel
theorem ef_rmF0 (m : MethodId) (x0 : Addr) (x1 : Int32) : entryFrame m #[(.ref x0), (.int x1)] 2 = mkF m 0 #[.val (.ref x0), .val (.int x1)] [] := by first | (simp [entryFrame, mkF, argsToLocals, Value.category]; done) | rfl
def QrmF0 (Z : State) (a1 : Addr) (kx : ClassId) (h0 : Heap) (n0 : Nat) (v : Option Value) (h : Heap) (L : List Loc) : Prop := v = none ∧ Fr n0 L ∧ Keep h0 h [a1]
set_option maxRecDepth 65536 in
set_option maxHeartbeats 40000000 in
theorem rmF0 (l : Launch) (Z : State) (a0 : Array Value) (hw : ∀ d ∈ tables_1, d.before a0 Z = true) (ws : List Jvm.Cond) (a1 : Addr) (kx : ClassId) (h0 : Heap) (n0 : Nat) (Z0 : n0 ≤ h0.size) (V : Arv Z h0 a1 kx .byte (0 : Int32) [] (.int (0 : Int32))) (g_a1 : n0 ≤ a1) :
    MetFree l (⟨"com/example/ledgerpost/ledgerpost/PayloadOfBytesPinLaw", "flip", "([BI)V"⟩ : MethodName) (head1 (Jvm.Cond.code (⟨"com/example/ledgerpost/ledgerpost/PayloadOfBytesPinLaw", "flip", "([BI)V"⟩ : MethodName) method_4_code 2 none :: ws) ({ frames := 0, cells := 0, slots := 0, locals := 0 } : Room)) (fun a U => a = #[(.ref a1), (.int (0 : Int32))] ∧ Z.Warmed39 U.vm ∧ U.heap = h0) (fun _ _ _ _ _ => True) (fun _ U o U' => ∃ v L, o = .returned v ∧ QrmF0 Z a1 kx h0 n0 v U'.heap L ∧ FrameEnd U o U' L ({ frames := 0, cells := 0, slots := 0, locals := 0 } : Room).cells ({ frames := 0, cells := 0, slots := 0, locals := 0 } : Room).slots) := by
  refine MetFree.of_bodySF (plainFor_of_name pn_0) hisR ?_
  intro p e s m args below meth c s₁ Bd hml0 hP hK
  obtain ⟨rfl, hZ, hh⟩ := hP
  have hx := Bd.exec
  have hby := Bd.bytes
  have hml : c.maxLocals = 2 := hml0
  have hown : s.vm.findClass "com/example/ledgerpost/ledgerpost/PayloadOfBytesPinLaw" = some m.cls := findClass_of_methodNamed Bd.named
  have hnm := (name_of_methodNamed Bd.named Bd.method).1
  have X0 : Stand p l e ({ frames := 0, cells := 0, slots := 0, locals := 0 } : Room) s m #[(.ref a1), (.int (0 : Int32))] below meth c s₁ [] 0 0 := Stand.of_body Bd
  have e0 : s₁.heap = h0 := by rw [← hh, Bd.state]; rfl
  have N0 := Fr.nil n0
  have pre0 : ∀ t_, Steps p.tables e below (s₁.setTop (mkF m 0 #[.val (.ref a1), .val (.int (0 : Int32))] [])) t_ → Steps p.tables e below (s₁.setTop (entryFrame m #[(.ref a1), (.int (0 : Int32))] 2)) t_ := fun t_ k_ => castTop (ef_rmF0 m a1 ((0 : Int32))) k_
  have pre101 : ∀ t_, Steps p.tables e below (s₁.setTop (mkF m 55 #[.val (.ref a1), .val (.int (0 : Int32))] [])) t_ → Steps p.tables e below (s₁.setTop (entryFrame m #[(.ref a1), (.int (0 : Int32))] 2)) t_ := fun t_ k_ => pre0 _ (by
    show Steps p.tables e below (s₁.setTop (mkF m 0 #[.val (.ref a1), .val (.int (0 : Int32))] [])) _
    refine XS.iloadN X0.here hx rfl (hb hby d10_0) rfl ?_
    show Steps p.tables e below (s₁.setTop (mkF m 1 #[.val (.ref a1), .val (.int (0 : Int32))] [(.int (0 : Int32))])) _
    refine XS.ifYes X0.here hx rfl (pc0 := 1) (pc' := 13) rfl (hb hby d10_1) rfl ((if0 _ _).trans (flt (by decide)).2.2.2) (by decide) (by decide) ?_
    show Steps p.tables e below (s₁.setTop (mkF m 13 #[.val (.ref a1), .val (.int (0 : Int32))] [])) _
    refine XS.iloadN X0.here hx rfl (hb hby d10_13) rfl ?_
    show Steps p.tables e below (s₁.setTop (mkF m 14 #[.val (.ref a1), .val (.int (0 : Int32))] [(.int (0 : Int32))])) _
    refine XS.iconst X0.here hx rfl (hb hby d10_14) ?_
    show Steps p.tables e below (s₁.setTop (mkF m 15 #[.val (.ref a1), .val (.int (0 : Int32))] [(.int (1 : Int32)), (.int (0 : Int32))])) _
    refine XS.icmpYes X0.here hx rfl (pc0 := 15) (pc' := 27) rfl (hb hby d10_15) rfl (flt (by decide)).2.2.2 (by decide) (by decide) ?_
    show Steps p.tables e below (s₁.setTop (mkF m 27 #[.val (.ref a1), .val (.int (0 : Int32))] [])) _
    refine XS.iloadN X0.here hx rfl (hb hby d10_27) rfl ?_
    show Steps p.tables e below (s₁.setTop (mkF m 28 #[.val (.ref a1), .val (.int (0 : Int32))] [(.int (0 : Int32))])) _
    refine XS.iconst X0.here hx rfl (hb hby d10_28) ?_
    show Steps p.tables e below (s₁.setTop (mkF m 29 #[.val (.ref a1), .val (.int (0 : Int32))] [(.int (2 : Int32)), (.int (0 : Int32))])) _
    refine XS.icmpYes X0.here hx rfl (pc0 := 29) (pc' := 41) rfl (hb hby d10_29) rfl (flt (by decide)).2.2.2 (by decide) (by decide) ?_
    show Steps p.tables e below (s₁.setTop (mkF m 41 #[.val (.ref a1), .val (.int (0 : Int32))] [])) _
    refine XS.iloadN X0.here hx rfl (hb hby d10_41) rfl ?_
    show Steps p.tables e below (s₁.setTop (mkF m 42 #[.val (.ref a1), .val (.int (0 : Int32))] [(.int (0 : Int32))])) _
    refine XS.iconst X0.here hx rfl (hb hby d10_42) ?_
    show Steps p.tables e below (s₁.setTop (mkF m 43 #[.val (.ref a1), .val (.int (0 : Int32))] [(.int (3 : Int32)), (.int (0 : Int32))])) _
    refine XS.icmpYes X0.here hx rfl (pc0 := 43) (pc' := 55) rfl (hb hby d10_43) rfl (flt (by decide)).2.2.2 (by decide) (by decide) ?_
    exact k_)
  obtain ⟨fs, hr, hrun, hended, hW, hsame⟩ := X0.leave (v := none) (fun _ => rfl)
  refine ⟨_, _, pre101 _ ?_, hrun, hended, _, _, rfl, ?_, ⟨_, rfl⟩, hW, hsame.mono (by decide) (by decide)⟩
  · show Steps p.tables e below (s₁.setTop (mkF m 55 #[.val (.ref a1), .val (.int (0 : Int32))] [])) _
    exact X0.returnOut hx Bd.returns (hb hby d10_55) hr
  · show QrmF0 Z a1 kx h0 n0 _ s₁.heap _
    rw [e0]
    exact ⟨rfl, N0, (Keep.refl h0 [a1])⟩
theorem pd_2 : parseMethodDescriptor "(II)B" = some ⟨[.int, .int], some .byte⟩ := by decide +kernel
theorem d9_16 : decode method_3_code 16 = .ok (.aload_n 0, 1) := by decide +kernel
theorem d9_17 : decode method_3_code 17 = .ok (.iconst 0, 1) := by decide +kernel
theorem d9_18 : decode method_3_code 18 = .ok (.baload, 1) := by decide +kernel
theorem d9_19 : decode method_3_code 19 = .ok (.iload_n 2, 1) := by decide +kernel
theorem d9_20 : decode method_3_code 20 = .ok (.iconst 0, 1) := by decide +kernel
theorem d9_21 : decode method_3_code 21 = .ok (.invokestatic 7, 3) := by decide +kernel
theorem d9_24 : decode method_3_code 24 = .ok (.if_icmp .eq 5, 3) := by decide +kernel
theorem ef_rmH1 (m : MethodId) (x0 : Addr) (x1 : Int32) (x2 : Int32) : entryFrame m #[(.ref x0), (.int x1), (.int x2)] 3 = mkF m 0 #[.val (.ref x0), .val (.int x1), .val (.int x2)] [] := by first | (simp [entryFrame, mkF, argsToLocals, Value.category]; done) | rfl
def QrmH1 (Z : State) (a1 : Addr) (p3 : Int32) (kx : ClassId) (h0 : Heap) (n0 : Nat) (v : Option Value) (h : Heap) (L : List Loc) : Prop := v = some (.int 1) ∧ Fr n0 L ∧ h = h0
set_option maxRecDepth 65536 in
set_option maxHeartbeats 40000000 in
theorem rmH1 (l : Launch) (Z : State) (a0 : Array Value) (hw : ∀ d ∈ tables_1, d.before a0 Z = true) (ws : List Jvm.Cond) (a1 : Addr) (p3 : Int32) (kx : ClassId) (h0 : Heap) (n0 : Nat) (Z0 : n0 ≤ h0.size) (V : Arv Z h0 a1 kx .byte (1 : Int32) [(.int (nar .byte (own_at8 p3 (0 : Int32))))] (.int (0 : Int32))) :
    MetFree l (⟨"com/example/ledgerpost/ledgerpost/PayloadOfBytesPinLaw", "holds", "([BII)Z"⟩ : MethodName) (head1 (Jvm.Cond.code (⟨"com/example/ledgerpost/ledgerpost/PayloadOfBytesPinLaw", "holds", "([BII)Z"⟩ : MethodName) method_3_code 3 (some .boolean) :: ws) ({ frames := 1, cells := 0, slots := 0, locals := 14 } : Room)) (fun a U => a = #[(.ref a1), (.int (1 : Int32)), (.int p3)] ∧ Z.Warmed39 U.vm ∧ U.heap = h0) (fun _ _ _ _ _ => True) (fun _ U o U' => ∃ v L, o = .returned v ∧ QrmH1 Z a1 p3 kx h0 n0 v U'.heap L ∧ FrameEnd U o U' L ({ frames := 1, cells := 0, slots := 0, locals := 14 } : Room).cells ({ frames := 1, cells := 0, slots := 0, locals := 14 } : Room).slots) := by
  refine MetFree.of_bodySF (plainFor_of_name pn_0) hisR ?_
  intro p e s m args below meth c s₁ Bd hml0 hP hK
  obtain ⟨rfl, hZ, hh⟩ := hP
  have hx := Bd.exec
  have hby := Bd.bytes
  have hml : c.maxLocals = 3 := hml0
  have hown : s.vm.findClass "com/example/ledgerpost/ledgerpost/PayloadOfBytesPinLaw" = some m.cls := findClass_of_methodNamed Bd.named
  have hnm := (name_of_methodNamed Bd.named Bd.method).1
  have X0 : Stand p l e ({ frames := 1, cells := 0, slots := 0, locals := 14 } : Room) s m #[(.ref a1), (.int (1 : Int32)), (.int p3)] below meth c s₁ [] 0 0 := Stand.of_body Bd
  have e0 : s₁.heap = h0 := by rw [← hh, Bd.state]; rfl
  have N0 := Fr.nil n0
  have pre0 : ∀ t_, Steps p.tables e below (s₁.setTop (mkF m 0 #[.val (.ref a1), .val (.int (1 : Int32)), .val (.int p3)] [])) t_ → Steps p.tables e below (s₁.setTop (entryFrame m #[(.ref a1), (.int (1 : Int32)), (.int p3)] 3)) t_ := fun t_ k_ => castTop (ef_rmH1 m a1 ((1 : Int32)) p3) k_
  obtain ⟨cl, Ar, -, Sz, Ng, Hs, -⟩ := V
  have hin0 : ¬ ((0 : Int32) < 0 ∨ cl.slots.size ≤ ((0 : Int32)).toNatClampNeg) := inb_of Sz ⟨by decide, by decide⟩
  have hat0 : cl.slots[((0 : Int32)).toNatClampNeg]? = some (.int (nar .byte (own_at8 p3 (0 : Int32)))) := Has.at Hs hin0 rfl
  obtain ⟨_, _, ⟨T101, L101, k101, n101⟩, -, X101, ⟨Lc101, hQ101, l101, y101, z101⟩, st101⟩ := Jvm.LawKit.callS X0 hx (y := (⟨"com/example/ledgerpost/ledgerpost/PayloadOfBytesPinLaw", "at", "(II)B"⟩ : MethodName)) hown (mvT hZ (hw _ (List.mem_of_getElem? (i := 65) rfl))) (mvT hZ (hw _ (List.mem_of_getElem? (i := 66) rfl))) (mvT hZ (hw _ (List.mem_of_getElem? (i := 60) rfl))) (mvT hZ (hw _ (List.mem_of_getElem? (i := 67) rfl))) (by decide) (backOf (W := 1) (rmA l Z a0 hw [] p3 (0 : Int32) h0 n0 Z0 ) hZ (hw _ (List.mem_of_getElem? (i := 67) rfl)) (hw _ (List.mem_of_getElem? (i := 60) rfl)) (by decide) (by decide)) (g := (mkF m 21 #[.val (.ref a1), .val (.int (1 : Int32)), .val (.int p3)] [(.int (0 : Int32)), (.int p3), (.int (nar .byte (own_at8 p3 (0 : Int32))))])) rfl (by rw [hml]; rfl) (argsL := [(.int p3), (.int (0 : Int32))]) (rest := [(.int (nar .byte (own_at8 p3 (0 : Int32))))]) (lenOf pd_2 rfl) rfl (by show 2 * 0 + _ ≤ _; exact Nat.le_of_eq rfl) (hb hby d9_21) (fun _ _ => ⟨rfl, e0, (by decide : 0 + 0 ≤ _), (by decide : 0 + 0 ≤ _)⟩)
  dsimp only [Pt.U, Pt.locs, Pt.cells, Pt.slots] at X101 l101 y101 z101 st101 hQ101
  subst l101 y101 z101
  obtain ⟨rfl, N101q, e101⟩ := hQ101
  have N101 := Fr.app N0 N101q
  have pre102 : ∀ t_, Steps p.tables e below (T101.setTop (mkF m 84 #[.val (.ref a1), .val (.int (1 : Int32)), .val (.int p3)] [(.int (1 : Int32))])) t_ → Steps p.tables e below (s₁.setTop (entryFrame m #[(.ref a1), (.int (1 : Int32)), (.int p3)] 3)) t_ := fun t_ k_ => pre0 _ (by
    show Steps p.tables e below (s₁.setTop (mkF m 0 #[.val (.ref a1), .val (.int (1 : Int32)), .val (.int p3)] [])) _
    refine XS.aloadN X0.here hx rfl (hb hby d9_0) rfl rfl ?_
    show Steps p.tables e below (s₁.setTop (mkF m 1 #[.val (.ref a1), .val (.int (1 : Int32)), .val (.int p3)] [(.ref a1)])) _
    refine XS.ifnullNo X0.here hx rfl (hb hby d9_1) rfl ?_
    show Steps p.tables e below (s₁.setTop (mkF m 4 #[.val (.ref a1), .val (.int (1 : Int32)), .val (.int p3)] [])) _
    refine XS.aloadN X0.here hx rfl (hb hby d9_4) rfl rfl ?_
    show Steps p.tables e below (s₁.setTop (mkF m 5 #[.val (.ref a1), .val (.int (1 : Int32)), .val (.int p3)] [(.ref a1)])) _
    refine X0.arraylength hx (by rw [e0]; exact Ar.1) (State.isArrayOf_alike hZ.alike Ar.2.1) (g := (mkF m 5 #[.val (.ref a1), .val (.int (1 : Int32)), .val (.int p3)] [(.ref a1)])) rfl rfl (hb hby d9_5) _ ?_
    rw [len_of Sz Ng]
    show Steps p.tables e below (s₁.setTop (mkF m 6 #[.val (.ref a1), .val (.int (1 : Int32)), .val (.int p3)] [(.int (1 : Int32))])) _
    refine XS.iloadN X0.here hx rfl (hb hby d9_6) rfl ?_
    show Steps p.tables e below (s₁.setTop (mkF m 7 #[.val (.ref a1), .val (.int (1 : Int32)), .val (.int p3)] [(.int (1 : Int32)), (.int (1 : Int32))])) _
    refine XS.icmpYes X0.here hx rfl (pc0 := 7) (pc' := 12) rfl (hb hby d9_7) rfl (teq rfl).1 (by decide) (by decide) ?_
    show Steps p.tables e below (s₁.setTop (mkF m 12 #[.val (.ref a1), .val (.int (1 : Int32)), .val (.int p3)] [])) _
    refine XS.iloadN X0.here hx rfl (hb hby d9_12) rfl ?_
    show Steps p.tables e below (s₁.setTop (mkF m 13 #[.val (.ref a1), .val (.int (1 : Int32)), .val (.int p3)] [(.int (1 : Int32))])) _
    refine XS.ifNo X0.here hx rfl (hb hby d9_13) rfl ((if0 _ _).trans (tlt (by decide)).2.2.2) ?_
    show Steps p.tables e below (s₁.setTop (mkF m 16 #[.val (.ref a1), .val (.int (1 : Int32)), .val (.int p3)] [])) _
    refine XS.aloadN X0.here hx rfl (hb hby d9_16) rfl rfl ?_
    show Steps p.tables e below (s₁.setTop (mkF m 17 #[.val (.ref a1), .val (.int (1 : Int32)), .val (.int p3)] [(.ref a1)])) _
    refine XS.iconst X0.here hx rfl (hb hby d9_17) ?_
    show Steps p.tables e below (s₁.setTop (mkF m 18 #[.val (.ref a1), .val (.int (1 : Int32)), .val (.int p3)] [(.int (0 : Int32)), (.ref a1)])) _
    refine X0.baloadBytes hx (j := (0 : Int32)) (v := (.int (nar .byte (own_at8 p3 (0 : Int32))))) (by rw [e0]; exact Ar.1) (State.isArrayOf_alike hZ.alike Ar.2.1) Ar.2.2 hin0 hat0 (g := (mkF m 18 #[.val (.ref a1), .val (.int (1 : Int32)), .val (.int p3)] [(.int (0 : Int32)), (.ref a1)])) rfl rfl (hb hby d9_18) _ ?_
    show Steps p.tables e below (s₁.setTop (mkF m 19 #[.val (.ref a1), .val (.int (1 : Int32)), .val (.int p3)] [(.int (nar .byte (own_at8 p3 (0 : Int32))))])) _
    refine XS.iloadN X0.here hx rfl (hb hby d9_19) rfl ?_
    show Steps p.tables e below (s₁.setTop (mkF m 20 #[.val (.ref a1), .val (.int (1 : Int32)), .val (.int p3)] [(.int p3), (.int (nar .byte (own_at8 p3 (0 : Int32))))])) _
    refine XS.iconst X0.here hx rfl (hb hby d9_20) ?_
    show Steps p.tables e below (s₁.setTop (mkF m 21 #[.val (.ref a1), .val (.int (1 : Int32)), .val (.int p3)] [(.int (0 : Int32)), (.int p3), (.int (nar .byte (own_at8 p3 (0 : Int32))))])) _
    refine st101 _ ?_
    show Steps p.tables e below (T101.setTop (mkF m 24 #[.val (.ref a1), .val (.int (1 : Int32)), .val (.int p3)] [(.int (own_at8 p3 (0 : Int32))), (.int (nar .byte (own_at8 p3 (0 : Int32))))])) _
    refine XS.icmpYes X101.here hx rfl (pc0 := 24) (pc' := 29) rfl (hb hby d9_24) rfl (teq (own_nar8 _ _)).1 (by decide) (by decide) ?_
    show Steps p.tables e below (T101.setTop (mkF m 29 #[.val (.ref a1), .val (.int (1 : Int32)), .val (.int p3)] [])) _
    refine XS.iloadN X101.here hx rfl (hb hby d9_29) rfl ?_
    show Steps p.tables e below (T101.setTop (mkF m 30 #[.val (.ref a1), .val (.int (1 : Int32)), .val (.int p3)] [(.int (1 : Int32))])) _
    refine XS.iconst X101.here hx rfl (hb hby d9_30) ?_
    show Steps p.tables e below (T101.setTop (mkF m 31 #[.val (.ref a1), .val (.int (1 : Int32)), .val (.int p3)] [(.int (1 : Int32)), (.int (1 : Int32))])) _
    refine XS.icmpYes X101.here hx rfl (pc0 := 31) (pc' := 47) rfl (hb hby d9_31) rfl (flt (by decide)).2.2.2 (by decide) (by decide) ?_
    show Steps p.tables e below (T101.setTop (mkF m 47 #[.val (.ref a1), .val (.int (1 : Int32)), .val (.int p3)] [])) _
    refine XS.iloadN X101.here hx rfl (hb hby d9_47) rfl ?_
    show Steps p.tables e below (T101.setTop (mkF m 48 #[.val (.ref a1), .val (.int (1 : Int32)), .val (.int p3)] [(.int (1 : Int32))])) _
    refine XS.iconst X101.here hx rfl (hb hby d9_48) ?_
    show Steps p.tables e below (T101.setTop (mkF m 49 #[.val (.ref a1), .val (.int (1 : Int32)), .val (.int p3)] [(.int (2 : Int32)), (.int (1 : Int32))])) _
    refine XS.icmpYes X101.here hx rfl (pc0 := 49) (pc' := 65) rfl (hb hby d9_49) rfl (flt (by decide)).2.2.2 (by decide) (by decide) ?_
    show Steps p.tables e below (T101.setTop (mkF m 65 #[.val (.ref a1), .val (.int (1 : Int32)), .val (.int p3)] [])) _
    refine XS.iloadN X101.here hx rfl (hb hby d9_65) rfl ?_
    show Steps p.tables e below (T101.setTop (mkF m 66 #[.val (.ref a1), .val (.int (1 : Int32)), .val (.int p3)] [(.int (1 : Int32))])) _
    refine XS.iconst X101.here hx rfl (hb hby d9_66) ?_
    show Steps p.tables e below (T101.setTop (mkF m 67 #[.val (.ref a1), .val (.int (1 : Int32)), .val (.int p3)] [(.int (3 : Int32)), (.int (1 : Int32))])) _
    refine XS.icmpYes X101.here hx rfl (pc0 := 67) (pc' := 83) rfl (hb hby d9_67) rfl (flt (by decide)).2.2.2 (by decide) (by decide) ?_
    show Steps p.tables e below (T101.setTop (mkF m 83 #[.val (.ref a1), .val (.int (1 : Int32)), .val (.int p3)] [])) _
    refine XS.iconst X101.here hx rfl (hb hby d9_83) ?_
    exact k_)
  obtain ⟨fs, hr, hrun, hended, hW, hsame⟩ := X101.leave (v := some (.int (1 : Int32))) (fun h => by rw [Bd.returns] at h; cases h)
  refine ⟨_, _, pre102 _ ?_, hrun, hended, _, _, rfl, ?_, ⟨_, rfl⟩, hW, hsame.mono (by decide) (by decide)⟩
  · show Steps p.tables e below (T101.setTop (mkF m 84 #[.val (.ref a1), .val (.int (1 : Int32)), .val (.int p3)] [(.int (1 : Int32))])) _
    exact retN X101 hx (t := .boolean) Bd.returns (by simp) (hb hby d9_84) hr
  · show QrmH1 Z a1 p3 kx h0 n0 _ T101.heap _
    rw [e101]
    exact ⟨rfl, N101, rfl⟩
theorem d10_4 : decode method_4_code 4 = .ok (.aload_n 0, 1) := by decide +kernel
theorem d10_5 : decode method_4_code 5 = .ok (.iconst 0, 1) := by decide +kernel
theorem d10_6 : decode method_4_code 6 = .ok (.aload_n 0, 1) := by decide +kernel
theorem d10_7 : decode method_4_code 7 = .ok (.iconst 0, 1) := by decide +kernel
theorem d10_8 : decode method_4_code 8 = .ok (.baload, 1) := by decide +kernel
theorem d10_9 : decode method_4_code 9 = .ok (.iconst 1, 1) := by decide +kernel
theorem d10_10 : decode method_4_code 10 = .ok (.ixor, 1) := by decide +kernel
theorem d10_11 : decode method_4_code 11 = .ok (.i2b, 1) := by decide +kernel
theorem d10_12 : decode method_4_code 12 = .ok (.bastore, 1) := by decide +kernel
theorem ef_rmF1 (m : MethodId) (x0 : Addr) (x1 : Int32) : entryFrame m #[(.ref x0), (.int x1)] 2 = mkF m 0 #[.val (.ref x0), .val (.int x1)] [] := by first | (simp [entryFrame, mkF, argsToLocals, Value.category]; done) | rfl
def QrmF1 (Z : State) (a1 : Addr) (kx : ClassId) (x0 : Int32) (h0 : Heap) (n0 : Nat) (v : Option Value) (h : Heap) (L : List Loc) : Prop := v = none ∧ Fr n0 L ∧ Keep h0 h [a1]
set_option maxRecDepth 65536 in
set_option maxHeartbeats 40000000 in
theorem rmF1 (l : Launch) (Z : State) (a0 : Array Value) (hw : ∀ d ∈ tables_1, d.before a0 Z = true) (ws : List Jvm.Cond) (a1 : Addr) (kx : ClassId) (x0 : Int32) (h0 : Heap) (n0 : Nat) (Z0 : n0 ≤ h0.size) (V : Arv Z h0 a1 kx .byte (1 : Int32) [(.int x0)] (.int (0 : Int32))) (g_a1 : n0 ≤ a1) :
    MetFree l (⟨"com/example/ledgerpost/ledgerpost/PayloadOfBytesPinLaw", "flip", "([BI)V"⟩ : MethodName) (head1 (Jvm.Cond.code (⟨"com/example/ledgerpost/ledgerpost/PayloadOfBytesPinLaw", "flip", "([BI)V"⟩ : MethodName) method_4_code 2 none :: ws) ({ frames := 0, cells := 0, slots := 0, locals := 0 } : Room)) (fun a U => a = #[(.ref a1), (.int (1 : Int32))] ∧ Z.Warmed39 U.vm ∧ U.heap = h0) (fun _ _ _ _ _ => True) (fun _ U o U' => ∃ v L, o = .returned v ∧ QrmF1 Z a1 kx x0 h0 n0 v U'.heap L ∧ FrameEnd U o U' L ({ frames := 0, cells := 0, slots := 0, locals := 0 } : Room).cells ({ frames := 0, cells := 0, slots := 0, locals := 0 } : Room).slots) := by
  refine MetFree.of_bodySF (plainFor_of_name pn_0) hisR ?_
  intro p e s m args below meth c s₁ Bd hml0 hP hK
  obtain ⟨rfl, hZ, hh⟩ := hP
  have hx := Bd.exec
  have hby := Bd.bytes
  have hml : c.maxLocals = 2 := hml0
  have hown : s.vm.findClass "com/example/ledgerpost/ledgerpost/PayloadOfBytesPinLaw" = some m.cls := findClass_of_methodNamed Bd.named
  have hnm := (name_of_methodNamed Bd.named Bd.method).1
  have X0 : Stand p l e ({ frames := 0, cells := 0, slots := 0, locals := 0 } : Room) s m #[(.ref a1), (.int (1 : Int32))] below meth c s₁ [] 0 0 := Stand.of_body Bd
  have e0 : s₁.heap = h0 := by rw [← hh, Bd.state]; rfl
  have N0 := Fr.nil n0
  have pre0 : ∀ t_, Steps p.tables e below (s₁.setTop (mkF m 0 #[.val (.ref a1), .val (.int (1 : Int32))] [])) t_ → Steps p.tables e below (s₁.setTop (entryFrame m #[(.ref a1), (.int (1 : Int32))] 2)) t_ := fun t_ k_ => castTop (ef_rmF1 m a1 ((1 : Int32))) k_
  obtain ⟨cl101, Ar101, -, Sz101, -, Hs101, -⟩ := id V
  have hin101 : ¬ ((0 : Int32) < 0 ∨ cl101.slots.size ≤ ((0 : Int32)).toNatClampNeg) := inb_of Sz101 ⟨by decide, by decide⟩
  have hat101 : cl101.slots[((0 : Int32)).toNatClampNeg]? = some (.int x0) := Has.at Hs101 hin101 rfl
  obtain ⟨cl102, Ar102, qk102, Sz102, Ng102, Hs102, Gs102⟩ := V
  have hin102 : ¬ ((0 : Int32) < 0 ∨ cl102.slots.size ≤ ((0 : Int32)).toNatClampNeg) := inb_of Sz102 ⟨by decide, by decide⟩
  obtain ⟨T103, h103, X103, e103, W103, st103⟩ := stB X0 hx hZ e0 Ar102 (j := (0 : Int32)) hin102 (g := (mkF m 12 #[.val (.ref a1), .val (.int (1 : Int32))] [(.int ((x0 ^^^ (1 : Int32)).toInt8.toInt32)), (.int (0 : Int32)), (.ref a1)])) rfl rfl (hb hby d10_12)
  have K_104 := (Keep.refl h0 [a1]).wr W103 (Or.inl (List.mem_of_getElem? (i := 0) rfl))
  have V_a1_103 : Arv Z h103 a1 kx .byte (1 : Int32) [(.int (nar .byte ((x0 ^^^ (1 : Int32)).toInt8.toInt32)))] (.int (0 : Int32)) := Arv.set Ar102 qk102 Sz102 Ng102 Hs102 Gs102 (fits_nar_byte _) W103 0 rfl (Nat.le_of_ble_eq_true rfl)
  have N103 := Fr.snoc X103 N0 g_a1
  have Z105 : n0 ≤ h103.size := Nat.le_trans Z0 ((Keep.of_wr W103).1)
  have pre106 : ∀ t_, Steps p.tables e below (T103.setTop (mkF m 55 #[.val (.ref a1), .val (.int (1 : Int32))] [])) t_ → Steps p.tables e below (s₁.setTop (entryFrame m #[(.ref a1), (.int (1 : Int32))] 2)) t_ := fun t_ k_ => pre0 _ (by
    show Steps p.tables e below (s₁.setTop (mkF m 0 #[.val (.ref a1), .val (.int (1 : Int32))] [])) _
    refine XS.iloadN X0.here hx rfl (hb hby d10_0) rfl ?_
    show Steps p.tables e below (s₁.setTop (mkF m 1 #[.val (.ref a1), .val (.int (1 : Int32))] [(.int (1 : Int32))])) _
    refine XS.ifNo X0.here hx rfl (hb hby d10_1) rfl ((if0 _ _).trans (tlt (by decide)).2.2.2) ?_
    show Steps p.tables e below (s₁.setTop (mkF m 4 #[.val (.ref a1), .val (.int (1 : Int32))] [])) _
    refine XS.aloadN X0.here hx rfl (hb hby d10_4) rfl rfl ?_
    show Steps p.tables e below (s₁.setTop (mkF m 5 #[.val (.ref a1), .val (.int (1 : Int32))] [(.ref a1)])) _
    refine XS.iconst X0.here hx rfl (hb hby d10_5) ?_
    show Steps p.tables e below (s₁.setTop (mkF m 6 #[.val (.ref a1), .val (.int (1 : Int32))] [(.int (0 : Int32)), (.ref a1)])) _
    refine XS.aloadN X0.here hx rfl (hb hby d10_6) rfl rfl ?_
    show Steps p.tables e below (s₁.setTop (mkF m 7 #[.val (.ref a1), .val (.int (1 : Int32))] [(.ref a1), (.int (0 : Int32)), (.ref a1)])) _
    refine XS.iconst X0.here hx rfl (hb hby d10_7) ?_
    show Steps p.tables e below (s₁.setTop (mkF m 8 #[.val (.ref a1), .val (.int (1 : Int32))] [(.int (0 : Int32)), (.ref a1), (.int (0 : Int32)), (.ref a1)])) _
    refine X0.baloadBytes hx (j := (0 : Int32)) (v := (.int x0)) (by rw [e0]; exact Ar101.1) (State.isArrayOf_alike hZ.alike Ar101.2.1) Ar101.2.2 hin101 hat101 (g := (mkF m 8 #[.val (.ref a1), .val (.int (1 : Int32))] [(.int (0 : Int32)), (.ref a1), (.int (0 : Int32)), (.ref a1)])) rfl rfl (hb hby d10_8) _ ?_
    show Steps p.tables e below (s₁.setTop (mkF m 9 #[.val (.ref a1), .val (.int (1 : Int32))] [(.int x0), (.int (0 : Int32)), (.ref a1)])) _
    refine XS.iconst X0.here hx rfl (hb hby d10_9) ?_
    show Steps p.tables e below (s₁.setTop (mkF m 10 #[.val (.ref a1), .val (.int (1 : Int32))] [(.int (1 : Int32)), (.int x0), (.int (0 : Int32)), (.ref a1)])) _
    refine XS.ixor X0.here hx rfl (hb hby d10_10) rfl ?_
    show Steps p.tables e below (s₁.setTop (mkF m 11 #[.val (.ref a1), .val (.int (1 : Int32))] [(.int (x0 ^^^ (1 : Int32))), (.int (0 : Int32)), (.ref a1)])) _
    refine XS.i2b X0.here hx rfl (hb hby d10_11) rfl ?_
    show Steps p.tables e below (s₁.setTop (mkF m 12 #[.val (.ref a1), .val (.int (1 : Int32))] [(.int ((x0 ^^^ (1 : Int32)).toInt8.toInt32)), (.int (0 : Int32)), (.ref a1)])) _
    refine st103 _ ?_
    show Steps p.tables e below (T103.setTop (mkF m 13 #[.val (.ref a1), .val (.int (1 : Int32))] [])) _
    refine XS.iloadN X103.here hx rfl (hb hby d10_13) rfl ?_
    show Steps p.tables e below (T103.setTop (mkF m 14 #[.val (.ref a1), .val (.int (1 : Int32))] [(.int (1 : Int32))])) _
    refine XS.iconst X103.here hx rfl (hb hby d10_14) ?_
    show Steps p.tables e below (T103.setTop (mkF m 15 #[.val (.ref a1), .val (.int (1 : Int32))] [(.int (1 : Int32)), (.int (1 : Int32))])) _
    refine XS.icmpYes X103.here hx rfl (pc0 := 15) (pc' := 27) rfl (hb hby d10_15) rfl (flt (by decide)).2.2.2 (by decide) (by decide) ?_
    show Steps p.tables e below (T103.setTop (mkF m 27 #[.val (.ref a1), .val (.int (1 : Int32))] [])) _
    refine XS.iloadN X103.here hx rfl (hb hby d10_27) rfl ?_
    show Steps p.tables e below (T103.setTop (mkF m 28 #[.val (.ref a1), .val (.int (1 : Int32))] [(.int (1 : Int32))])) _
    refine XS.iconst X103.here hx rfl (hb hby d10_28) ?_
    show Steps p.tables e below (T103.setTop (mkF m 29 #[.val (.ref a1), .val (.int (1 : Int32))] [(.int (2 : Int32)), (.int (1 : Int32))])) _
    refine XS.icmpYes X103.here hx rfl (pc0 := 29) (pc' := 41) rfl (hb hby d10_29) rfl (flt (by decide)).2.2.2 (by decide) (by decide) ?_
    show Steps p.tables e below (T103.setTop (mkF m 41 #[.val (.ref a1), .val (.int (1 : Int32))] [])) _
    refine XS.iloadN X103.here hx rfl (hb hby d10_41) rfl ?_
    show Steps p.tables e below (T103.setTop (mkF m 42 #[.val (.ref a1), .val (.int (1 : Int32))] [(.int (1 : Int32))])) _
    refine XS.iconst X103.here hx rfl (hb hby d10_42) ?_
    show Steps p.tables e below (T103.setTop (mkF m 43 #[.val (.ref a1), .val (.int (1 : Int32))] [(.int (3 : Int32)), (.int (1 : Int32))])) _
    refine XS.icmpYes X103.here hx rfl (pc0 := 43) (pc' := 55) rfl (hb hby d10_43) rfl (flt (by decide)).2.2.2 (by decide) (by decide) ?_
    exact k_)
  obtain ⟨fs, hr, hrun, hended, hW, hsame⟩ := X103.leave (v := none) (fun _ => rfl)
  refine ⟨_, _, pre106 _ ?_, hrun, hended, _, _, rfl, ?_, ⟨_, rfl⟩, hW, hsame.mono (by decide) (by decide)⟩
  · show Steps p.tables e below (T103.setTop (mkF m 55 #[.val (.ref a1), .val (.int (1 : Int32))] [])) _
    exact X103.returnOut hx Bd.returns (hb hby d10_55) hr
  · show QrmF1 Z a1 kx x0 h0 n0 _ T103.heap _
    rw [e103]
    exact ⟨rfl, N103, K_104⟩
theorem d9_34 : decode method_3_code 34 = .ok (.aload_n 0, 1) := by decide +kernel
theorem d9_35 : decode method_3_code 35 = .ok (.iconst 1, 1) := by decide +kernel
theorem d9_36 : decode method_3_code 36 = .ok (.baload, 1) := by decide +kernel
theorem d9_37 : decode method_3_code 37 = .ok (.iload_n 2, 1) := by decide +kernel
theorem d9_38 : decode method_3_code 38 = .ok (.iconst 1, 1) := by decide +kernel
theorem d9_39 : decode method_3_code 39 = .ok (.invokestatic 7, 3) := by decide +kernel
theorem d9_42 : decode method_3_code 42 = .ok (.if_icmp .eq 5, 3) := by decide +kernel
theorem ef_rmH2 (m : MethodId) (x0 : Addr) (x1 : Int32) (x2 : Int32) : entryFrame m #[(.ref x0), (.int x1), (.int x2)] 3 = mkF m 0 #[.val (.ref x0), .val (.int x1), .val (.int x2)] [] := by first | (simp [entryFrame, mkF, argsToLocals, Value.category]; done) | rfl
def QrmH2 (Z : State) (a1 : Addr) (p3 : Int32) (kx : ClassId) (h0 : Heap) (n0 : Nat) (v : Option Value) (h : Heap) (L : List Loc) : Prop := v = some (.int 1) ∧ Fr n0 L ∧ h = h0
set_option maxRecDepth 65536 in
set_option maxHeartbeats 40000000 in
theorem rmH2 (l : Launch) (Z : State) (a0 : Array Value) (hw : ∀ d ∈ tables_1, d.before a0 Z = true) (ws : List Jvm.Cond) (a1 : Addr) (p3 : Int32) (kx : ClassId) (h0 : Heap) (n0 : Nat) (Z0 : n0 ≤ h0.size) (V : Arv Z h0 a1 kx .byte (2 : Int32) [(.int (nar .byte (own_at8 p3 (0 : Int32)))), (.int (nar .byte (own_at8 p3 (1 : Int32))))] (.int (0 : Int32))) :
    MetFree l (⟨"com/example/ledgerpost/ledgerpost/PayloadOfBytesPinLaw", "holds", "([BII)Z"⟩ : MethodName) (head1 (Jvm.Cond.code (⟨"com/example/ledgerpost/ledgerpost/PayloadOfBytesPinLaw", "holds", "([BII)Z"⟩ : MethodName) method_3_code 3 (some .boolean) :: ws) ({ frames := 1, cells := 0, slots := 0, locals := 14 } : Room)) (fun a U => a = #[(.ref a1), (.int (2 : Int32)), (.int p3)] ∧ Z.Warmed39 U.vm ∧ U.heap = h0) (fun _ _ _ _ _ => True) (fun _ U o U' => ∃ v L, o = .returned v ∧ QrmH2 Z a1 p3 kx h0 n0 v U'.heap L ∧ FrameEnd U o U' L ({ frames := 1, cells := 0, slots := 0, locals := 14 } : Room).cells ({ frames := 1, cells := 0, slots := 0, locals := 14 } : Room).slots) := by
  refine MetFree.of_bodySF (plainFor_of_name pn_0) hisR ?_
  intro p e s m args below meth c s₁ Bd hml0 hP hK
  obtain ⟨rfl, hZ, hh⟩ := hP
  have hx := Bd.exec
  have hby := Bd.bytes
  have hml : c.maxLocals = 3 := hml0
  have hown : s.vm.findClass "com/example/ledgerpost/ledgerpost/PayloadOfBytesPinLaw" = some m.cls := findClass_of_methodNamed Bd.named
  have hnm := (name_of_methodNamed Bd.named Bd.method).1
  have X0 : Stand p l e ({ frames := 1, cells := 0, slots := 0, locals := 14 } : Room) s m #[(.ref a1), (.int (2 : Int32)), (.int p3)] below meth c s₁ [] 0 0 := Stand.of_body Bd
  have e0 : s₁.heap = h0 := by rw [← hh, Bd.state]; rfl
  have N0 := Fr.nil n0
  have pre0 : ∀ t_, Steps p.tables e below (s₁.setTop (mkF m 0 #[.val (.ref a1), .val (.int (2 : Int32)), .val (.int p3)] [])) t_ → Steps p.tables e below (s₁.setTop (entryFrame m #[(.ref a1), (.int (2 : Int32)), (.int p3)] 3)) t_ := fun t_ k_ => castTop (ef_rmH2 m a1 ((2 : Int32)) p3) k_
  obtain ⟨cl, Ar, -, Sz, Ng, Hs, -⟩ := V
  have hin0 : ¬ ((0 : Int32) < 0 ∨ cl.slots.size ≤ ((0 : Int32)).toNatClampNeg) := inb_of Sz ⟨by decide, by decide⟩
  have hat0 : cl.slots[((0 : Int32)).toNatClampNeg]? = some (.int (nar .byte (own_at8 p3 (0 : Int32)))) := Has.at Hs hin0 rfl
  obtain ⟨_, _, ⟨T101, L101, k101, n101⟩, -, X101, ⟨Lc101, hQ101, l101, y101, z101⟩, st101⟩ := Jvm.LawKit.callS X0 hx (y := (⟨"com/example/ledgerpost/ledgerpost/PayloadOfBytesPinLaw", "at", "(II)B"⟩ : MethodName)) hown (mvT hZ (hw _ (List.mem_of_getElem? (i := 65) rfl))) (mvT hZ (hw _ (List.mem_of_getElem? (i := 66) rfl))) (mvT hZ (hw _ (List.mem_of_getElem? (i := 60) rfl))) (mvT hZ (hw _ (List.mem_of_getElem? (i := 67) rfl))) (by decide) (backOf (W := 1) (rmA l Z a0 hw [] p3 (0 : Int32) h0 n0 Z0 ) hZ (hw _ (List.mem_of_getElem? (i := 67) rfl)) (hw _ (List.mem_of_getElem? (i := 60) rfl)) (by decide) (by decide)) (g := (mkF m 21 #[.val (.ref a1), .val (.int (2 : Int32)), .val (.int p3)] [(.int (0 : Int32)), (.int p3), (.int (nar .byte (own_at8 p3 (0 : Int32))))])) rfl (by rw [hml]; rfl) (argsL := [(.int p3), (.int (0 : Int32))]) (rest := [(.int (nar .byte (own_at8 p3 (0 : Int32))))]) (lenOf pd_2 rfl) rfl (by show 2 * 0 + _ ≤ _; exact Nat.le_of_eq rfl) (hb hby d9_21) (fun _ _ => ⟨rfl, e0, (by decide : 0 + 0 ≤ _), (by decide : 0 + 0 ≤ _)⟩)
  dsimp only [Pt.U, Pt.locs, Pt.cells, Pt.slots] at X101 l101 y101 z101 st101 hQ101
  subst l101 y101 z101
  obtain ⟨rfl, N101q, e101⟩ := hQ101
  have N101 := Fr.app N0 N101q
  have hin1 : ¬ ((1 : Int32) < 0 ∨ cl.slots.size ≤ ((1 : Int32)).toNatClampNeg) := inb_of Sz ⟨by decide, by decide⟩
  have hat1 : cl.slots[((1 : Int32)).toNatClampNeg]? = some (.int (nar .byte (own_at8 p3 (1 : Int32)))) := Has.at Hs hin1 rfl
  obtain ⟨_, _, ⟨T102, L102, k102, n102⟩, -, X102, ⟨Lc102, hQ102, l102, y102, z102⟩, st102⟩ := Jvm.LawKit.callS X101 hx (y := (⟨"com/example/ledgerpost/ledgerpost/PayloadOfBytesPinLaw", "at", "(II)B"⟩ : MethodName)) hown (mvT hZ (hw _ (List.mem_of_getElem? (i := 65) rfl))) (mvT hZ (hw _ (List.mem_of_getElem? (i := 66) rfl))) (mvT hZ (hw _ (List.mem_of_getElem? (i := 60) rfl))) (mvT hZ (hw _ (List.mem_of_getElem? (i := 67) rfl))) (by decide) (backOf (W := 1) (rmA l Z a0 hw [] p3 (1 : Int32) h0 n0 Z0 ) hZ (hw _ (List.mem_of_getElem? (i := 67) rfl)) (hw _ (List.mem_of_getElem? (i := 60) rfl)) (by decide) (by decide)) (g := (mkF m 39 #[.val (.ref a1), .val (.int (2 : Int32)), .val (.int p3)] [(.int (1 : Int32)), (.int p3), (.int (nar .byte (own_at8 p3 (1 : Int32))))])) rfl (by rw [hml]; rfl) (argsL := [(.int p3), (.int (1 : Int32))]) (rest := [(.int (nar .byte (own_at8 p3 (1 : Int32))))]) (lenOf pd_2 rfl) rfl (by show 2 * 0 + _ ≤ _; exact Nat.le_of_eq rfl) (hb hby d9_39) (fun _ _ => ⟨rfl, e101, (by decide : 0 + 0 ≤ _), (by decide : 0 + 0 ≤ _)⟩)
  dsimp only [Pt.U, Pt.locs, Pt.cells, Pt.slots] at X102 l102 y102 z102 st102 hQ102
  subst l102 y102 z102
  obtain ⟨rfl, N102q, e102⟩ := hQ102
  have N102 := Fr.app N101 N102q
  have pre103 : ∀ t_, Steps p.tables e below (T102.setTop (mkF m 84 #[.val (.ref a1), .val (.int (2 : Int32)), .val (.int p3)] [(.int (1 : Int32))])) t_ → Steps p.tables e below (s₁.setTop (entryFrame m #[(.ref a1), (.int (2 : Int32)), (.int p3)] 3)) t_ := fun t_ k_ => pre0 _ (by
    show Steps p.tables e below (s₁.setTop (mkF m 0 #[.val (.ref a1), .val (.int (2 : Int32)), .val (.int p3)] [])) _
    refine XS.aloadN X0.here hx rfl (hb hby d9_0) rfl rfl ?_
    show Steps p.tables e below (s₁.setTop (mkF m 1 #[.val (.ref a1), .val (.int (2 : Int32)), .val (.int p3)] [(.ref a1)])) _
    refine XS.ifnullNo X0.here hx rfl (hb hby d9_1) rfl ?_
    show Steps p.tables e below (s₁.setTop (mkF m 4 #[.val (.ref a1), .val (.int (2 : Int32)), .val (.int p3)] [])) _
    refine XS.aloadN X0.here hx rfl (hb hby d9_4) rfl rfl ?_
    show Steps p.tables e below (s₁.setTop (mkF m 5 #[.val (.ref a1), .val (.int (2 : Int32)), .val (.int p3)] [(.ref a1)])) _
    refine X0.arraylength hx (by rw [e0]; exact Ar.1) (State.isArrayOf_alike hZ.alike Ar.2.1) (g := (mkF m 5 #[.val (.ref a1), .val (.int (2 : Int32)), .val (.int p3)] [(.ref a1)])) rfl rfl (hb hby d9_5) _ ?_
    rw [len_of Sz Ng]
    show Steps p.tables e below (s₁.setTop (mkF m 6 #[.val (.ref a1), .val (.int (2 : Int32)), .val (.int p3)] [(.int (2 : Int32))])) _
    refine XS.iloadN X0.here hx rfl (hb hby d9_6) rfl ?_
    show Steps p.tables e below (s₁.setTop (mkF m 7 #[.val (.ref a1), .val (.int (2 : Int32)), .val (.int p3)] [(.int (2 : Int32)), (.int (2 : Int32))])) _
    refine XS.icmpYes X0.here hx rfl (pc0 := 7) (pc' := 12) rfl (hb hby d9_7) rfl (teq rfl).1 (by decide) (by decide) ?_
    show Steps p.tables e below (s₁.setTop (mkF m 12 #[.val (.ref a1), .val (.int (2 : Int32)), .val (.int p3)] [])) _
    refine XS.iloadN X0.here hx rfl (hb hby d9_12) rfl ?_
    show Steps p.tables e below (s₁.setTop (mkF m 13 #[.val (.ref a1), .val (.int (2 : Int32)), .val (.int p3)] [(.int (2 : Int32))])) _
    refine XS.ifNo X0.here hx rfl (hb hby d9_13) rfl ((if0 _ _).trans (tlt (by decide)).2.2.2) ?_
    show Steps p.tables e below (s₁.setTop (mkF m 16 #[.val (.ref a1), .val (.int (2 : Int32)), .val (.int p3)] [])) _
    refine XS.aloadN X0.here hx rfl (hb hby d9_16) rfl rfl ?_
    show Steps p.tables e below (s₁.setTop (mkF m 17 #[.val (.ref a1), .val (.int (2 : Int32)), .val (.int p3)] [(.ref a1)])) _
    refine XS.iconst X0.here hx rfl (hb hby d9_17) ?_
    show Steps p.tables e below (s₁.setTop (mkF m 18 #[.val (.ref a1), .val (.int (2 : Int32)), .val (.int p3)] [(.int (0 : Int32)), (.ref a1)])) _
    refine X0.baloadBytes hx (j := (0 : Int32)) (v := (.int (nar .byte (own_at8 p3 (0 : Int32))))) (by rw [e0]; exact Ar.1) (State.isArrayOf_alike hZ.alike Ar.2.1) Ar.2.2 hin0 hat0 (g := (mkF m 18 #[.val (.ref a1), .val (.int (2 : Int32)), .val (.int p3)] [(.int (0 : Int32)), (.ref a1)])) rfl rfl (hb hby d9_18) _ ?_
    show Steps p.tables e below (s₁.setTop (mkF m 19 #[.val (.ref a1), .val (.int (2 : Int32)), .val (.int p3)] [(.int (nar .byte (own_at8 p3 (0 : Int32))))])) _
    refine XS.iloadN X0.here hx rfl (hb hby d9_19) rfl ?_
    show Steps p.tables e below (s₁.setTop (mkF m 20 #[.val (.ref a1), .val (.int (2 : Int32)), .val (.int p3)] [(.int p3), (.int (nar .byte (own_at8 p3 (0 : Int32))))])) _
    refine XS.iconst X0.here hx rfl (hb hby d9_20) ?_
    show Steps p.tables e below (s₁.setTop (mkF m 21 #[.val (.ref a1), .val (.int (2 : Int32)), .val (.int p3)] [(.int (0 : Int32)), (.int p3), (.int (nar .byte (own_at8 p3 (0 : Int32))))])) _
    refine st101 _ ?_
    show Steps p.tables e below (T101.setTop (mkF m 24 #[.val (.ref a1), .val (.int (2 : Int32)), .val (.int p3)] [(.int (own_at8 p3 (0 : Int32))), (.int (nar .byte (own_at8 p3 (0 : Int32))))])) _
    refine XS.icmpYes X101.here hx rfl (pc0 := 24) (pc' := 29) rfl (hb hby d9_24) rfl (teq (own_nar8 _ _)).1 (by decide) (by decide) ?_
    show Steps p.tables e below (T101.setTop (mkF m 29 #[.val (.ref a1), .val (.int (2 : Int32)), .val (.int p3)] [])) _
    refine XS.iloadN X101.here hx rfl (hb hby d9_29) rfl ?_
    show Steps p.tables e below (T101.setTop (mkF m 30 #[.val (.ref a1), .val (.int (2 : Int32)), .val (.int p3)] [(.int (2 : Int32))])) _
    refine XS.iconst X101.here hx rfl (hb hby d9_30) ?_
    show Steps p.tables e below (T101.setTop (mkF m 31 #[.val (.ref a1), .val (.int (2 : Int32)), .val (.int p3)] [(.int (1 : Int32)), (.int (2 : Int32))])) _
    refine XS.icmpNo X101.here hx rfl (hb hby d9_31) rfl (tlt (by decide)).2.2.2 ?_
    show Steps p.tables e below (T101.setTop (mkF m 34 #[.val (.ref a1), .val (.int (2 : Int32)), .val (.int p3)] [])) _
    refine XS.aloadN X101.here hx rfl (hb hby d9_34) rfl rfl ?_
    show Steps p.tables e below (T101.setTop (mkF m 35 #[.val (.ref a1), .val (.int (2 : Int32)), .val (.int p3)] [(.ref a1)])) _
    refine XS.iconst X101.here hx rfl (hb hby d9_35) ?_
    show Steps p.tables e below (T101.setTop (mkF m 36 #[.val (.ref a1), .val (.int (2 : Int32)), .val (.int p3)] [(.int (1 : Int32)), (.ref a1)])) _
    refine X101.baloadBytes hx (j := (1 : Int32)) (v := (.int (nar .byte (own_at8 p3 (1 : Int32))))) (by rw [e101]; exact Ar.1) (State.isArrayOf_alike hZ.alike Ar.2.1) Ar.2.2 hin1 hat1 (g := (mkF m 36 #[.val (.ref a1), .val (.int (2 : Int32)), .val (.int p3)] [(.int (1 : Int32)), (.ref a1)])) rfl rfl (hb hby d9_36) _ ?_
    show Steps p.tables e below (T101.setTop (mkF m 37 #[.val (.ref a1), .val (.int (2 : Int32)), .val (.int p3)] [(.int (nar .byte (own_at8 p3 (1 : Int32))))])) _
    refine XS.iloadN X101.here hx rfl (hb hby d9_37) rfl ?_
    show Steps p.tables e below (T101.setTop (mkF m 38 #[.val (.ref a1), .val (.int (2 : Int32)), .val (.int p3)] [(.int p3), (.int (nar .byte (own_at8 p3 (1 : Int32))))])) _
    refine XS.iconst X101.here hx rfl (hb hby d9_38) ?_
    show Steps p.tables e below (T101.setTop (mkF m 39 #[.val (.ref a1), .val (.int (2 : Int32)), .val (.int p3)] [(.int (1 : Int32)), (.int p3), (.int (nar .byte (own_at8 p3 (1 : Int32))))])) _
    refine st102 _ ?_
    show Steps p.tables e below (T102.setTop (mkF m 42 #[.val (.ref a1), .val (.int (2 : Int32)), .val (.int p3)] [(.int (own_at8 p3 (1 : Int32))), (.int (nar .byte (own_at8 p3 (1 : Int32))))])) _
    refine XS.icmpYes X102.here hx rfl (pc0 := 42) (pc' := 47) rfl (hb hby d9_42) rfl (teq (own_nar8 _ _)).1 (by decide) (by decide) ?_
    show Steps p.tables e below (T102.setTop (mkF m 47 #[.val (.ref a1), .val (.int (2 : Int32)), .val (.int p3)] [])) _
    refine XS.iloadN X102.here hx rfl (hb hby d9_47) rfl ?_
    show Steps p.tables e below (T102.setTop (mkF m 48 #[.val (.ref a1), .val (.int (2 : Int32)), .val (.int p3)] [(.int (2 : Int32))])) _
    refine XS.iconst X102.here hx rfl (hb hby d9_48) ?_
    show Steps p.tables e below (T102.setTop (mkF m 49 #[.val (.ref a1), .val (.int (2 : Int32)), .val (.int p3)] [(.int (2 : Int32)), (.int (2 : Int32))])) _
    refine XS.icmpYes X102.here hx rfl (pc0 := 49) (pc' := 65) rfl (hb hby d9_49) rfl (flt (by decide)).2.2.2 (by decide) (by decide) ?_
    show Steps p.tables e below (T102.setTop (mkF m 65 #[.val (.ref a1), .val (.int (2 : Int32)), .val (.int p3)] [])) _
    refine XS.iloadN X102.here hx rfl (hb hby d9_65) rfl ?_
    show Steps p.tables e below (T102.setTop (mkF m 66 #[.val (.ref a1), .val (.int (2 : Int32)), .val (.int p3)] [(.int (2 : Int32))])) _
    refine XS.iconst X102.here hx rfl (hb hby d9_66) ?_
    show Steps p.tables e below (T102.setTop (mkF m 67 #[.val (.ref a1), .val (.int (2 : Int32)), .val (.int p3)] [(.int (3 : Int32)), (.int (2 : Int32))])) _
    refine XS.icmpYes X102.here hx rfl (pc0 := 67) (pc' := 83) rfl (hb hby d9_67) rfl (flt (by decide)).2.2.2 (by decide) (by decide) ?_
    show Steps p.tables e below (T102.setTop (mkF m 83 #[.val (.ref a1), .val (.int (2 : Int32)), .val (.int p3)] [])) _
    refine XS.iconst X102.here hx rfl (hb hby d9_83) ?_
    exact k_)
  obtain ⟨fs, hr, hrun, hended, hW, hsame⟩ := X102.leave (v := some (.int (1 : Int32))) (fun h => by rw [Bd.returns] at h; cases h)
  refine ⟨_, _, pre103 _ ?_, hrun, hended, _, _, rfl, ?_, ⟨_, rfl⟩, hW, hsame.mono (by decide) (by decide)⟩
  · show Steps p.tables e below (T102.setTop (mkF m 84 #[.val (.ref a1), .val (.int (2 : Int32)), .val (.int p3)] [(.int (1 : Int32))])) _
    exact retN X102 hx (t := .boolean) Bd.returns (by simp) (hb hby d9_84) hr
  · show QrmH2 Z a1 p3 kx h0 n0 _ T102.heap _
    rw [e102]
    exact ⟨rfl, N102, rfl⟩
theorem d10_18 : decode method_4_code 18 = .ok (.aload_n 0, 1) := by decide +kernel
theorem d10_19 : decode method_4_code 19 = .ok (.iconst 1, 1) := by decide +kernel
theorem d10_20 : decode method_4_code 20 = .ok (.aload_n 0, 1) := by decide +kernel
theorem d10_21 : decode method_4_code 21 = .ok (.iconst 1, 1) := by decide +kernel
theorem d10_22 : decode method_4_code 22 = .ok (.baload, 1) := by decide +kernel
theorem d10_23 : decode method_4_code 23 = .ok (.iconst 1, 1) := by decide +kernel
theorem d10_24 : decode method_4_code 24 = .ok (.ixor, 1) := by decide +kernel
theorem d10_25 : decode method_4_code 25 = .ok (.i2b, 1) := by decide +kernel
theorem d10_26 : decode method_4_code 26 = .ok (.bastore, 1) := by decide +kernel
theorem ef_rmF2 (m : MethodId) (x0 : Addr) (x1 : Int32) : entryFrame m #[(.ref x0), (.int x1)] 2 = mkF m 0 #[.val (.ref x0), .val (.int x1)] [] := by first | (simp [entryFrame, mkF, argsToLocals, Value.category]; done) | rfl
def QrmF2 (Z : State) (a1 : Addr) (kx : ClassId) (x0 : Int32) (x1 : Int32) (h0 : Heap) (n0 : Nat) (v : Option Value) (h : Heap) (L : List Loc) : Prop := v = none ∧ Fr n0 L ∧ Keep h0 h [a1]
set_option maxRecDepth 65536 in
set_option maxHeartbeats 40000000 in
theorem rmF2 (l : Launch) (Z : State) (a0 : Array Value) (hw : ∀ d ∈ tables_1, d.before a0 Z = true) (ws : List Jvm.Cond) (a1 : Addr) (kx : ClassId) (x0 : Int32) (x1 : Int32) (h0 : Heap) (n0 : Nat) (Z0 : n0 ≤ h0.size) (V : Arv Z h0 a1 kx .byte (2 : Int32) [(.int x0), (.int x1)] (.int (0 : Int32))) (g_a1 : n0 ≤ a1) :
    MetFree l (⟨"com/example/ledgerpost/ledgerpost/PayloadOfBytesPinLaw", "flip", "([BI)V"⟩ : MethodName) (head1 (Jvm.Cond.code (⟨"com/example/ledgerpost/ledgerpost/PayloadOfBytesPinLaw", "flip", "([BI)V"⟩ : MethodName) method_4_code 2 none :: ws) ({ frames := 0, cells := 0, slots := 0, locals := 0 } : Room)) (fun a U => a = #[(.ref a1), (.int (2 : Int32))] ∧ Z.Warmed39 U.vm ∧ U.heap = h0) (fun _ _ _ _ _ => True) (fun _ U o U' => ∃ v L, o = .returned v ∧ QrmF2 Z a1 kx x0 x1 h0 n0 v U'.heap L ∧ FrameEnd U o U' L ({ frames := 0, cells := 0, slots := 0, locals := 0 } : Room).cells ({ frames := 0, cells := 0, slots := 0, locals := 0 } : Room).slots) := by
  refine MetFree.of_bodySF (plainFor_of_name pn_0) hisR ?_
  intro p e s m args below meth c s₁ Bd hml0 hP hK
  obtain ⟨rfl, hZ, hh⟩ := hP
  have hx := Bd.exec
  have hby := Bd.bytes
  have hml : c.maxLocals = 2 := hml0
  have hown : s.vm.findClass "com/example/ledgerpost/ledgerpost/PayloadOfBytesPinLaw" = some m.cls := findClass_of_methodNamed Bd.named
  have hnm := (name_of_methodNamed Bd.named Bd.method).1
  have X0 : Stand p l e ({ frames := 0, cells := 0, slots := 0, locals := 0 } : Room) s m #[(.ref a1), (.int (2 : Int32))] below meth c s₁ [] 0 0 := Stand.of_body Bd
  have e0 : s₁.heap = h0 := by rw [← hh, Bd.state]; rfl
  have N0 := Fr.nil n0
  have pre0 : ∀ t_, Steps p.tables e below (s₁.setTop (mkF m 0 #[.val (.ref a1), .val (.int (2 : Int32))] [])) t_ → Steps p.tables e below (s₁.setTop (entryFrame m #[(.ref a1), (.int (2 : Int32))] 2)) t_ := fun t_ k_ => castTop (ef_rmF2 m a1 ((2 : Int32))) k_
  obtain ⟨cl101, Ar101, -, Sz101, -, Hs101, -⟩ := id V
  have hin101 : ¬ ((0 : Int32) < 0 ∨ cl101.slots.size ≤ ((0 : Int32)).toNatClampNeg) := inb_of Sz101 ⟨by decide, by decide⟩
  have hat101 : cl101.slots[((0 : Int32)).toNatClampNeg]? = some (.int x0) := Has.at Hs101 hin101 rfl
  obtain ⟨cl102, Ar102, qk102, Sz102, Ng102, Hs102, Gs102⟩ := V
  have hin102 : ¬ ((0 : Int32) < 0 ∨ cl102.slots.size ≤ ((0 : Int32)).toNatClampNeg) := inb_of Sz102 ⟨by decide, by decide⟩
  obtain ⟨T103, h103, X103, e103, W103, st103⟩ := stB X0 hx hZ e0 Ar102 (j := (0 : Int32)) hin102 (g := (mkF m 12 #[.val (.ref a1), .val (.int (2 : Int32))] [(.int ((x0 ^^^ (1 : Int32)).toInt8.toInt32)), (.int (0 : Int32)), (.ref a1)])) rfl rfl (hb hby d10_12)
  have K_104 := (Keep.refl h0 [a1]).wr W103 (Or.inl (List.mem_of_getElem? (i := 0) rfl))
  have V_a1_103 : Arv Z h103 a1 kx .byte (2 : Int32) [(.int (nar .byte ((x0 ^^^ (1 : Int32)).toInt8.toInt32))), (.int x1)] (.int (0 : Int32)) := Arv.set Ar102 qk102 Sz102 Ng102 Hs102 Gs102 (fits_nar_byte _) W103 0 rfl (Nat.le_of_ble_eq_true rfl)
  have N103 := Fr.snoc X103 N0 g_a1
  have Z105 : n0 ≤ h103.size := Nat.le_trans Z0 ((Keep.of_wr W103).1)
  obtain ⟨cl106, Ar106, -, Sz106, -, Hs106, -⟩ := id V_a1_103
  have hin106 : ¬ ((1 : Int32) < 0 ∨ cl106.slots.size ≤ ((1 : Int32)).toNatClampNeg) := inb_of Sz106 ⟨by decide, by decide⟩
  have hat106 : cl106.slots[((1 : Int32)).toNatClampNeg]? = some (.int x1) := Has.at Hs106 hin106 rfl
  obtain ⟨cl107, Ar107, qk107, Sz107, Ng107, Hs107, Gs107⟩ := V_a1_103
  have hin107 : ¬ ((1 : Int32) < 0 ∨ cl107.slots.size ≤ ((1 : Int32)).toNatClampNeg) := inb_of Sz107 ⟨by decide, by decide⟩
  obtain ⟨T108, h108, X108, e108, W108, st108⟩ := stB X103 hx hZ e103 Ar107 (j := (1 : Int32)) hin107 (g := (mkF m 26 #[.val (.ref a1), .val (.int (2 : Int32))] [(.int ((x1 ^^^ (1 : Int32)).toInt8.toInt32)), (.int (1 : Int32)), (.ref a1)])) rfl rfl (hb hby d10_26)
  have K_109 := K_104.wr W108 (Or.inl (List.mem_of_getElem? (i := 0) rfl))
  have V_a1_108 : Arv Z h108 a1 kx .byte (2 : Int32) [(.int (nar .byte ((x0 ^^^ (1 : Int32)).toInt8.toInt32))), (.int (nar .byte ((x1 ^^^ (1 : Int32)).toInt8.toInt32)))] (.int (0 : Int32)) := Arv.set Ar107 qk107 Sz107 Ng107 Hs107 Gs107 (fits_nar_byte _) W108 1 rfl (Nat.le_of_ble_eq_true rfl)
  have N108 := Fr.snoc X108 N103 g_a1
  have Z110 : n0 ≤ h108.size := Nat.le_trans Z105 ((Keep.of_wr W108).1)
  have pre111 : ∀ t_, Steps p.tables e below (T108.setTop (mkF m 55 #[.val (.ref a1), .val (.int (2 : Int32))] [])) t_ → Steps p.tables e below (s₁.setTop (entryFrame m #[(.ref a1), (.int (2 : Int32))] 2)) t_ := fun t_ k_ => pre0 _ (by
    show Steps p.tables e below (s₁.setTop (mkF m 0 #[.val (.ref a1), .val (.int (2 : Int32))] [])) _
    refine XS.iloadN X0.here hx rfl (hb hby d10_0) rfl ?_
    show Steps p.tables e below (s₁.setTop (mkF m 1 #[.val (.ref a1), .val (.int (2 : Int32))] [(.int (2 : Int32))])) _
    refine XS.ifNo X0.here hx rfl (hb hby d10_1) rfl ((if0 _ _).trans (tlt (by decide)).2.2.2) ?_
    show Steps p.tables e below (s₁.setTop (mkF m 4 #[.val (.ref a1), .val (.int (2 : Int32))] [])) _
    refine XS.aloadN X0.here hx rfl (hb hby d10_4) rfl rfl ?_
    show Steps p.tables e below (s₁.setTop (mkF m 5 #[.val (.ref a1), .val (.int (2 : Int32))] [(.ref a1)])) _
    refine XS.iconst X0.here hx rfl (hb hby d10_5) ?_
    show Steps p.tables e below (s₁.setTop (mkF m 6 #[.val (.ref a1), .val (.int (2 : Int32))] [(.int (0 : Int32)), (.ref a1)])) _
    refine XS.aloadN X0.here hx rfl (hb hby d10_6) rfl rfl ?_
    show Steps p.tables e below (s₁.setTop (mkF m 7 #[.val (.ref a1), .val (.int (2 : Int32))] [(.ref a1), (.int (0 : Int32)), (.ref a1)])) _
    refine XS.iconst X0.here hx rfl (hb hby d10_7) ?_
    show Steps p.tables e below (s₁.setTop (mkF m 8 #[.val (.ref a1), .val (.int (2 : Int32))] [(.int (0 : Int32)), (.ref a1), (.int (0 : Int32)), (.ref a1)])) _
    refine X0.baloadBytes hx (j := (0 : Int32)) (v := (.int x0)) (by rw [e0]; exact Ar101.1) (State.isArrayOf_alike hZ.alike Ar101.2.1) Ar101.2.2 hin101 hat101 (g := (mkF m 8 #[.val (.ref a1), .val (.int (2 : Int32))] [(.int (0 : Int32)), (.ref a1), (.int (0 : Int32)), (.ref a1)])) rfl rfl (hb hby d10_8) _ ?_
    show Steps p.tables e below (s₁.setTop (mkF m 9 #[.val (.ref a1), .val (.int (2 : Int32))] [(.int x0), (.int (0 : Int32)), (.ref a1)])) _
    refine XS.iconst X0.here hx rfl (hb hby d10_9) ?_
    show Steps p.tables e below (s₁.setTop (mkF m 10 #[.val (.ref a1), .val (.int (2 : Int32))] [(.int (1 : Int32)), (.int x0), (.int (0 : Int32)), (.ref a1)])) _
    refine XS.ixor X0.here hx rfl (hb hby d10_10) rfl ?_
    show Steps p.tables e below (s₁.setTop (mkF m 11 #[.val (.ref a1), .val (.int (2 : Int32))] [(.int (x0 ^^^ (1 : Int32))), (.int (0 : Int32)), (.ref a1)])) _
    refine XS.i2b X0.here hx rfl (hb hby d10_11) rfl ?_
    show Steps p.tables e below (s₁.setTop (mkF m 12 #[.val (.ref a1), .val (.int (2 : Int32))] [(.int ((x0 ^^^ (1 : Int32)).toInt8.toInt32)), (.int (0 : Int32)), (.ref a1)])) _
    refine st103 _ ?_
    show Steps p.tables e below (T103.setTop (mkF m 13 #[.val (.ref a1), .val (.int (2 : Int32))] [])) _
    refine XS.iloadN X103.here hx rfl (hb hby d10_13) rfl ?_
    show Steps p.tables e below (T103.setTop (mkF m 14 #[.val (.ref a1), .val (.int (2 : Int32))] [(.int (2 : Int32))])) _
    refine XS.iconst X103.here hx rfl (hb hby d10_14) ?_
    show Steps p.tables e below (T103.setTop (mkF m 15 #[.val (.ref a1), .val (.int (2 : Int32))] [(.int (1 : Int32)), (.int (2 : Int32))])) _
    refine XS.icmpNo X103.here hx rfl (hb hby d10_15) rfl (tlt (by decide)).2.2.2 ?_
    show Steps p.tables e below (T103.setTop (mkF m 18 #[.val (.ref a1), .val (.int (2 : Int32))] [])) _
    refine XS.aloadN X103.here hx rfl (hb hby d10_18) rfl rfl ?_
    show Steps p.tables e below (T103.setTop (mkF m 19 #[.val (.ref a1), .val (.int (2 : Int32))] [(.ref a1)])) _
    refine XS.iconst X103.here hx rfl (hb hby d10_19) ?_
    show Steps p.tables e below (T103.setTop (mkF m 20 #[.val (.ref a1), .val (.int (2 : Int32))] [(.int (1 : Int32)), (.ref a1)])) _
    refine XS.aloadN X103.here hx rfl (hb hby d10_20) rfl rfl ?_
    show Steps p.tables e below (T103.setTop (mkF m 21 #[.val (.ref a1), .val (.int (2 : Int32))] [(.ref a1), (.int (1 : Int32)), (.ref a1)])) _
    refine XS.iconst X103.here hx rfl (hb hby d10_21) ?_
    show Steps p.tables e below (T103.setTop (mkF m 22 #[.val (.ref a1), .val (.int (2 : Int32))] [(.int (1 : Int32)), (.ref a1), (.int (1 : Int32)), (.ref a1)])) _
    refine X103.baloadBytes hx (j := (1 : Int32)) (v := (.int x1)) (by rw [e103]; exact Ar106.1) (State.isArrayOf_alike hZ.alike Ar106.2.1) Ar106.2.2 hin106 hat106 (g := (mkF m 22 #[.val (.ref a1), .val (.int (2 : Int32))] [(.int (1 : Int32)), (.ref a1), (.int (1 : Int32)), (.ref a1)])) rfl rfl (hb hby d10_22) _ ?_
    show Steps p.tables e below (T103.setTop (mkF m 23 #[.val (.ref a1), .val (.int (2 : Int32))] [(.int x1), (.int (1 : Int32)), (.ref a1)])) _
    refine XS.iconst X103.here hx rfl (hb hby d10_23) ?_
    show Steps p.tables e below (T103.setTop (mkF m 24 #[.val (.ref a1), .val (.int (2 : Int32))] [(.int (1 : Int32)), (.int x1), (.int (1 : Int32)), (.ref a1)])) _
    refine XS.ixor X103.here hx rfl (hb hby d10_24) rfl ?_
    show Steps p.tables e below (T103.setTop (mkF m 25 #[.val (.ref a1), .val (.int (2 : Int32))] [(.int (x1 ^^^ (1 : Int32))), (.int (1 : Int32)), (.ref a1)])) _
    refine XS.i2b X103.here hx rfl (hb hby d10_25) rfl ?_
    show Steps p.tables e below (T103.setTop (mkF m 26 #[.val (.ref a1), .val (.int (2 : Int32))] [(.int ((x1 ^^^ (1 : Int32)).toInt8.toInt32)), (.int (1 : Int32)), (.ref a1)])) _
    refine st108 _ ?_
    show Steps p.tables e below (T108.setTop (mkF m 27 #[.val (.ref a1), .val (.int (2 : Int32))] [])) _
    refine XS.iloadN X108.here hx rfl (hb hby d10_27) rfl ?_
    show Steps p.tables e below (T108.setTop (mkF m 28 #[.val (.ref a1), .val (.int (2 : Int32))] [(.int (2 : Int32))])) _
    refine XS.iconst X108.here hx rfl (hb hby d10_28) ?_
    show Steps p.tables e below (T108.setTop (mkF m 29 #[.val (.ref a1), .val (.int (2 : Int32))] [(.int (2 : Int32)), (.int (2 : Int32))])) _
    refine XS.icmpYes X108.here hx rfl (pc0 := 29) (pc' := 41) rfl (hb hby d10_29) rfl (flt (by decide)).2.2.2 (by decide) (by decide) ?_
    show Steps p.tables e below (T108.setTop (mkF m 41 #[.val (.ref a1), .val (.int (2 : Int32))] [])) _
    refine XS.iloadN X108.here hx rfl (hb hby d10_41) rfl ?_
    show Steps p.tables e below (T108.setTop (mkF m 42 #[.val (.ref a1), .val (.int (2 : Int32))] [(.int (2 : Int32))])) _
    refine XS.iconst X108.here hx rfl (hb hby d10_42) ?_
    show Steps p.tables e below (T108.setTop (mkF m 43 #[.val (.ref a1), .val (.int (2 : Int32))] [(.int (3 : Int32)), (.int (2 : Int32))])) _
    refine XS.icmpYes X108.here hx rfl (pc0 := 43) (pc' := 55) rfl (hb hby d10_43) rfl (flt (by decide)).2.2.2 (by decide) (by decide) ?_
    exact k_)
  obtain ⟨fs, hr, hrun, hended, hW, hsame⟩ := X108.leave (v := none) (fun _ => rfl)
  refine ⟨_, _, pre111 _ ?_, hrun, hended, _, _, rfl, ?_, ⟨_, rfl⟩, hW, hsame.mono (by decide) (by decide)⟩
  · show Steps p.tables e below (T108.setTop (mkF m 55 #[.val (.ref a1), .val (.int (2 : Int32))] [])) _
    exact X108.returnOut hx Bd.returns (hb hby d10_55) hr
  · show QrmF2 Z a1 kx x0 x1 h0 n0 _ T108.heap _
    rw [e108]
    exact ⟨rfl, N108, K_109⟩
theorem d9_52 : decode method_3_code 52 = .ok (.aload_n 0, 1) := by decide +kernel
theorem d9_53 : decode method_3_code 53 = .ok (.iconst 2, 1) := by decide +kernel
theorem d9_54 : decode method_3_code 54 = .ok (.baload, 1) := by decide +kernel
theorem d9_55 : decode method_3_code 55 = .ok (.iload_n 2, 1) := by decide +kernel
theorem d9_56 : decode method_3_code 56 = .ok (.iconst 2, 1) := by decide +kernel
theorem d9_57 : decode method_3_code 57 = .ok (.invokestatic 7, 3) := by decide +kernel
theorem d9_60 : decode method_3_code 60 = .ok (.if_icmp .eq 5, 3) := by decide +kernel
theorem ef_rmH3 (m : MethodId) (x0 : Addr) (x1 : Int32) (x2 : Int32) : entryFrame m #[(.ref x0), (.int x1), (.int x2)] 3 = mkF m 0 #[.val (.ref x0), .val (.int x1), .val (.int x2)] [] := by first | (simp [entryFrame, mkF, argsToLocals, Value.category]; done) | rfl
def QrmH3 (Z : State) (a1 : Addr) (p3 : Int32) (kx : ClassId) (h0 : Heap) (n0 : Nat) (v : Option Value) (h : Heap) (L : List Loc) : Prop := v = some (.int 1) ∧ Fr n0 L ∧ h = h0
set_option maxRecDepth 65536 in
set_option maxHeartbeats 40000000 in
theorem rmH3 (l : Launch) (Z : State) (a0 : Array Value) (hw : ∀ d ∈ tables_1, d.before a0 Z = true) (ws : List Jvm.Cond) (a1 : Addr) (p3 : Int32) (kx : ClassId) (h0 : Heap) (n0 : Nat) (Z0 : n0 ≤ h0.size) (V : Arv Z h0 a1 kx .byte (3 : Int32) [(.int (nar .byte (own_at8 p3 (0 : Int32)))), (.int (nar .byte (own_at8 p3 (1 : Int32)))), (.int (nar .byte (own_at8 p3 (2 : Int32))))] (.int (0 : Int32))) :
    MetFree l (⟨"com/example/ledgerpost/ledgerpost/PayloadOfBytesPinLaw", "holds", "([BII)Z"⟩ : MethodName) (head1 (Jvm.Cond.code (⟨"com/example/ledgerpost/ledgerpost/PayloadOfBytesPinLaw", "holds", "([BII)Z"⟩ : MethodName) method_3_code 3 (some .boolean) :: ws) ({ frames := 1, cells := 0, slots := 0, locals := 14 } : Room)) (fun a U => a = #[(.ref a1), (.int (3 : Int32)), (.int p3)] ∧ Z.Warmed39 U.vm ∧ U.heap = h0) (fun _ _ _ _ _ => True) (fun _ U o U' => ∃ v L, o = .returned v ∧ QrmH3 Z a1 p3 kx h0 n0 v U'.heap L ∧ FrameEnd U o U' L ({ frames := 1, cells := 0, slots := 0, locals := 14 } : Room).cells ({ frames := 1, cells := 0, slots := 0, locals := 14 } : Room).slots) := by
  refine MetFree.of_bodySF (plainFor_of_name pn_0) hisR ?_
  intro p e s m args below meth c s₁ Bd hml0 hP hK
  obtain ⟨rfl, hZ, hh⟩ := hP
  have hx := Bd.exec
  have hby := Bd.bytes
  have hml : c.maxLocals = 3 := hml0
  have hown : s.vm.findClass "com/example/ledgerpost/ledgerpost/PayloadOfBytesPinLaw" = some m.cls := findClass_of_methodNamed Bd.named
  have hnm := (name_of_methodNamed Bd.named Bd.method).1
  have X0 : Stand p l e ({ frames := 1, cells := 0, slots := 0, locals := 14 } : Room) s m #[(.ref a1), (.int (3 : Int32)), (.int p3)] below meth c s₁ [] 0 0 := Stand.of_body Bd
  have e0 : s₁.heap = h0 := by rw [← hh, Bd.state]; rfl
  have N0 := Fr.nil n0
  have pre0 : ∀ t_, Steps p.tables e below (s₁.setTop (mkF m 0 #[.val (.ref a1), .val (.int (3 : Int32)), .val (.int p3)] [])) t_ → Steps p.tables e below (s₁.setTop (entryFrame m #[(.ref a1), (.int (3 : Int32)), (.int p3)] 3)) t_ := fun t_ k_ => castTop (ef_rmH3 m a1 ((3 : Int32)) p3) k_
  obtain ⟨cl, Ar, -, Sz, Ng, Hs, -⟩ := V
  have hin0 : ¬ ((0 : Int32) < 0 ∨ cl.slots.size ≤ ((0 : Int32)).toNatClampNeg) := inb_of Sz ⟨by decide, by decide⟩
  have hat0 : cl.slots[((0 : Int32)).toNatClampNeg]? = some (.int (nar .byte (own_at8 p3 (0 : Int32)))) := Has.at Hs hin0 rfl
  obtain ⟨_, _, ⟨T101, L101, k101, n101⟩, -, X101, ⟨Lc101, hQ101, l101, y101, z101⟩, st101⟩ := Jvm.LawKit.callS X0 hx (y := (⟨"com/example/ledgerpost/ledgerpost/PayloadOfBytesPinLaw", "at", "(II)B"⟩ : MethodName)) hown (mvT hZ (hw _ (List.mem_of_getElem? (i := 65) rfl))) (mvT hZ (hw _ (List.mem_of_getElem? (i := 66) rfl))) (mvT hZ (hw _ (List.mem_of_getElem? (i := 60) rfl))) (mvT hZ (hw _ (List.mem_of_getElem? (i := 67) rfl))) (by decide) (backOf (W := 1) (rmA l Z a0 hw [] p3 (0 : Int32) h0 n0 Z0 ) hZ (hw _ (List.mem_of_getElem? (i := 67) rfl)) (hw _ (List.mem_of_getElem? (i := 60) rfl)) (by decide) (by decide)) (g := (mkF m 21 #[.val (.ref a1), .val (.int (3 : Int32)), .val (.int p3)] [(.int (0 : Int32)), (.int p3), (.int (nar .byte (own_at8 p3 (0 : Int32))))])) rfl (by rw [hml]; rfl) (argsL := [(.int p3), (.int (0 : Int32))]) (rest := [(.int (nar .byte (own_at8 p3 (0 : Int32))))]) (lenOf pd_2 rfl) rfl (by show 2 * 0 + _ ≤ _; exact Nat.le_of_eq rfl) (hb hby d9_21) (fun _ _ => ⟨rfl, e0, (by decide : 0 + 0 ≤ _), (by decide : 0 + 0 ≤ _)⟩)
  dsimp only [Pt.U, Pt.locs, Pt.cells, Pt.slots] at X101 l101 y101 z101 st101 hQ101
  subst l101 y101 z101
  obtain ⟨rfl, N101q, e101⟩ := hQ101
  have N101 := Fr.app N0 N101q
  have hin1 : ¬ ((1 : Int32) < 0 ∨ cl.slots.size ≤ ((1 : Int32)).toNatClampNeg) := inb_of Sz ⟨by decide, by decide⟩
  have hat1 : cl.slots[((1 : Int32)).toNatClampNeg]? = some (.int (nar .byte (own_at8 p3 (1 : Int32)))) := Has.at Hs hin1 rfl
  obtain ⟨_, _, ⟨T102, L102, k102, n102⟩, -, X102, ⟨Lc102, hQ102, l102, y102, z102⟩, st102⟩ := Jvm.LawKit.callS X101 hx (y := (⟨"com/example/ledgerpost/ledgerpost/PayloadOfBytesPinLaw", "at", "(II)B"⟩ : MethodName)) hown (mvT hZ (hw _ (List.mem_of_getElem? (i := 65) rfl))) (mvT hZ (hw _ (List.mem_of_getElem? (i := 66) rfl))) (mvT hZ (hw _ (List.mem_of_getElem? (i := 60) rfl))) (mvT hZ (hw _ (List.mem_of_getElem? (i := 67) rfl))) (by decide) (backOf (W := 1) (rmA l Z a0 hw [] p3 (1 : Int32) h0 n0 Z0 ) hZ (hw _ (List.mem_of_getElem? (i := 67) rfl)) (hw _ (List.mem_of_getElem? (i := 60) rfl)) (by decide) (by decide)) (g := (mkF m 39 #[.val (.ref a1), .val (.int (3 : Int32)), .val (.int p3)] [(.int (1 : Int32)), (.int p3), (.int (nar .byte (own_at8 p3 (1 : Int32))))])) rfl (by rw [hml]; rfl) (argsL := [(.int p3), (.int (1 : Int32))]) (rest := [(.int (nar .byte (own_at8 p3 (1 : Int32))))]) (lenOf pd_2 rfl) rfl (by show 2 * 0 + _ ≤ _; exact Nat.le_of_eq rfl) (hb hby d9_39) (fun _ _ => ⟨rfl, e101, (by decide : 0 + 0 ≤ _), (by decide : 0 + 0 ≤ _)⟩)
  dsimp only [Pt.U, Pt.locs, Pt.cells, Pt.slots] at X102 l102 y102 z102 st102 hQ102
  subst l102 y102 z102
  obtain ⟨rfl, N102q, e102⟩ := hQ102
  have N102 := Fr.app N101 N102q
  have hin2 : ¬ ((2 : Int32) < 0 ∨ cl.slots.size ≤ ((2 : Int32)).toNatClampNeg) := inb_of Sz ⟨by decide, by decide⟩
  have hat2 : cl.slots[((2 : Int32)).toNatClampNeg]? = some (.int (nar .byte (own_at8 p3 (2 : Int32)))) := Has.at Hs hin2 rfl
  obtain ⟨_, _, ⟨T103, L103, k103, n103⟩, -, X103, ⟨Lc103, hQ103, l103, y103, z103⟩, st103⟩ := Jvm.LawKit.callS X102 hx (y := (⟨"com/example/ledgerpost/ledgerpost/PayloadOfBytesPinLaw", "at", "(II)B"⟩ : MethodName)) hown (mvT hZ (hw _ (List.mem_of_getElem? (i := 65) rfl))) (mvT hZ (hw _ (List.mem_of_getElem? (i := 66) rfl))) (mvT hZ (hw _ (List.mem_of_getElem? (i := 60) rfl))) (mvT hZ (hw _ (List.mem_of_getElem? (i := 67) rfl))) (by decide) (backOf (W := 1) (rmA l Z a0 hw [] p3 (2 : Int32) h0 n0 Z0 ) hZ (hw _ (List.mem_of_getElem? (i := 67) rfl)) (hw _ (List.mem_of_getElem? (i := 60) rfl)) (by decide) (by decide)) (g := (mkF m 57 #[.val (.ref a1), .val (.int (3 : Int32)), .val (.int p3)] [(.int (2 : Int32)), (.int p3), (.int (nar .byte (own_at8 p3 (2 : Int32))))])) rfl (by rw [hml]; rfl) (argsL := [(.int p3), (.int (2 : Int32))]) (rest := [(.int (nar .byte (own_at8 p3 (2 : Int32))))]) (lenOf pd_2 rfl) rfl (by show 2 * 0 + _ ≤ _; exact Nat.le_of_eq rfl) (hb hby d9_57) (fun _ _ => ⟨rfl, e102, (by decide : 0 + 0 ≤ _), (by decide : 0 + 0 ≤ _)⟩)
  dsimp only [Pt.U, Pt.locs, Pt.cells, Pt.slots] at X103 l103 y103 z103 st103 hQ103
  subst l103 y103 z103
  obtain ⟨rfl, N103q, e103⟩ := hQ103
  have N103 := Fr.app N102 N103q
  have pre104 : ∀ t_, Steps p.tables e below (T103.setTop (mkF m 84 #[.val (.ref a1), .val (.int (3 : Int32)), .val (.int p3)] [(.int (1 : Int32))])) t_ → Steps p.tables e below (s₁.setTop (entryFrame m #[(.ref a1), (.int (3 : Int32)), (.int p3)] 3)) t_ := fun t_ k_ => pre0 _ (by
    show Steps p.tables e below (s₁.setTop (mkF m 0 #[.val (.ref a1), .val (.int (3 : Int32)), .val (.int p3)] [])) _
    refine XS.aloadN X0.here hx rfl (hb hby d9_0) rfl rfl ?_
    show Steps p.tables e below (s₁.setTop (mkF m 1 #[.val (.ref a1), .val (.int (3 : Int32)), .val (.int p3)] [(.ref a1)])) _
    refine XS.ifnullNo X0.here hx rfl (hb hby d9_1) rfl ?_
    show Steps p.tables e below (s₁.setTop (mkF m 4 #[.val (.ref a1), .val (.int (3 : Int32)), .val (.int p3)] [])) _
    refine XS.aloadN X0.here hx rfl (hb hby d9_4) rfl rfl ?_
    show Steps p.tables e below (s₁.setTop (mkF m 5 #[.val (.ref a1), .val (.int (3 : Int32)), .val (.int p3)] [(.ref a1)])) _
    refine X0.arraylength hx (by rw [e0]; exact Ar.1) (State.isArrayOf_alike hZ.alike Ar.2.1) (g := (mkF m 5 #[.val (.ref a1), .val (.int (3 : Int32)), .val (.int p3)] [(.ref a1)])) rfl rfl (hb hby d9_5) _ ?_
    rw [len_of Sz Ng]
    show Steps p.tables e below (s₁.setTop (mkF m 6 #[.val (.ref a1), .val (.int (3 : Int32)), .val (.int p3)] [(.int (3 : Int32))])) _
    refine XS.iloadN X0.here hx rfl (hb hby d9_6) rfl ?_
    show Steps p.tables e below (s₁.setTop (mkF m 7 #[.val (.ref a1), .val (.int (3 : Int32)), .val (.int p3)] [(.int (3 : Int32)), (.int (3 : Int32))])) _
    refine XS.icmpYes X0.here hx rfl (pc0 := 7) (pc' := 12) rfl (hb hby d9_7) rfl (teq rfl).1 (by decide) (by decide) ?_
    show Steps p.tables e below (s₁.setTop (mkF m 12 #[.val (.ref a1), .val (.int (3 : Int32)), .val (.int p3)] [])) _
    refine XS.iloadN X0.here hx rfl (hb hby d9_12) rfl ?_
    show Steps p.tables e below (s₁.setTop (mkF m 13 #[.val (.ref a1), .val (.int (3 : Int32)), .val (.int p3)] [(.int (3 : Int32))])) _
    refine XS.ifNo X0.here hx rfl (hb hby d9_13) rfl ((if0 _ _).trans (tlt (by decide)).2.2.2) ?_
    show Steps p.tables e below (s₁.setTop (mkF m 16 #[.val (.ref a1), .val (.int (3 : Int32)), .val (.int p3)] [])) _
    refine XS.aloadN X0.here hx rfl (hb hby d9_16) rfl rfl ?_
    show Steps p.tables e below (s₁.setTop (mkF m 17 #[.val (.ref a1), .val (.int (3 : Int32)), .val (.int p3)] [(.ref a1)])) _
    refine XS.iconst X0.here hx rfl (hb hby d9_17) ?_
    show Steps p.tables e below (s₁.setTop (mkF m 18 #[.val (.ref a1), .val (.int (3 : Int32)), .val (.int p3)] [(.int (0 : Int32)), (.ref a1)])) _
    refine X0.baloadBytes hx (j := (0 : Int32)) (v := (.int (nar .byte (own_at8 p3 (0 : Int32))))) (by rw [e0]; exact Ar.1) (State.isArrayOf_alike hZ.alike Ar.2.1) Ar.2.2 hin0 hat0 (g := (mkF m 18 #[.val (.ref a1), .val (.int (3 : Int32)), .val (.int p3)] [(.int (0 : Int32)), (.ref a1)])) rfl rfl (hb hby d9_18) _ ?_
    show Steps p.tables e below (s₁.setTop (mkF m 19 #[.val (.ref a1), .val (.int (3 : Int32)), .val (.int p3)] [(.int (nar .byte (own_at8 p3 (0 : Int32))))])) _
    refine XS.iloadN X0.here hx rfl (hb hby d9_19) rfl ?_
    show Steps p.tables e below (s₁.setTop (mkF m 20 #[.val (.ref a1), .val (.int (3 : Int32)), .val (.int p3)] [(.int p3), (.int (nar .byte (own_at8 p3 (0 : Int32))))])) _
    refine XS.iconst X0.here hx rfl (hb hby d9_20) ?_
    show Steps p.tables e below (s₁.setTop (mkF m 21 #[.val (.ref a1), .val (.int (3 : Int32)), .val (.int p3)] [(.int (0 : Int32)), (.int p3), (.int (nar .byte (own_at8 p3 (0 : Int32))))])) _
    refine st101 _ ?_
    show Steps p.tables e below (T101.setTop (mkF m 24 #[.val (.ref a1), .val (.int (3 : Int32)), .val (.int p3)] [(.int (own_at8 p3 (0 : Int32))), (.int (nar .byte (own_at8 p3 (0 : Int32))))])) _
    refine XS.icmpYes X101.here hx rfl (pc0 := 24) (pc' := 29) rfl (hb hby d9_24) rfl (teq (own_nar8 _ _)).1 (by decide) (by decide) ?_
    show Steps p.tables e below (T101.setTop (mkF m 29 #[.val (.ref a1), .val (.int (3 : Int32)), .val (.int p3)] [])) _
    refine XS.iloadN X101.here hx rfl (hb hby d9_29) rfl ?_
    show Steps p.tables e below (T101.setTop (mkF m 30 #[.val (.ref a1), .val (.int (3 : Int32)), .val (.int p3)] [(.int (3 : Int32))])) _
    refine XS.iconst X101.here hx rfl (hb hby d9_30) ?_
    show Steps p.tables e below (T101.setTop (mkF m 31 #[.val (.ref a1), .val (.int (3 : Int32)), .val (.int p3)] [(.int (1 : Int32)), (.int (3 : Int32))])) _
    refine XS.icmpNo X101.here hx rfl (hb hby d9_31) rfl (tlt (by decide)).2.2.2 ?_
    show Steps p.tables e below (T101.setTop (mkF m 34 #[.val (.ref a1), .val (.int (3 : Int32)), .val (.int p3)] [])) _
    refine XS.aloadN X101.here hx rfl (hb hby d9_34) rfl rfl ?_
    show Steps p.tables e below (T101.setTop (mkF m 35 #[.val (.ref a1), .val (.int (3 : Int32)), .val (.int p3)] [(.ref a1)])) _
    refine XS.iconst X101.here hx rfl (hb hby d9_35) ?_
    show Steps p.tables e below (T101.setTop (mkF m 36 #[.val (.ref a1), .val (.int (3 : Int32)), .val (.int p3)] [(.int (1 : Int32)), (.ref a1)])) _
    refine X101.baloadBytes hx (j := (1 : Int32)) (v := (.int (nar .byte (own_at8 p3 (1 : Int32))))) (by rw [e101]; exact Ar.1) (State.isArrayOf_alike hZ.alike Ar.2.1) Ar.2.2 hin1 hat1 (g := (mkF m 36 #[.val (.ref a1), .val (.int (3 : Int32)), .val (.int p3)] [(.int (1 : Int32)), (.ref a1)])) rfl rfl (hb hby d9_36) _ ?_
    show Steps p.tables e below (T101.setTop (mkF m 37 #[.val (.ref a1), .val (.int (3 : Int32)), .val (.int p3)] [(.int (nar .byte (own_at8 p3 (1 : Int32))))])) _
    refine XS.iloadN X101.here hx rfl (hb hby d9_37) rfl ?_
    show Steps p.tables e below (T101.setTop (mkF m 38 #[.val (.ref a1), .val (.int (3 : Int32)), .val (.int p3)] [(.int p3), (.int (nar .byte (own_at8 p3 (1 : Int32))))])) _
    refine XS.iconst X101.here hx rfl (hb hby d9_38) ?_
    show Steps p.tables e below (T101.setTop (mkF m 39 #[.val (.ref a1), .val (.int (3 : Int32)), .val (.int p3)] [(.int (1 : Int32)), (.int p3), (.int (nar .byte (own_at8 p3 (1 : Int32))))])) _
    refine st102 _ ?_
    show Steps p.tables e below (T102.setTop (mkF m 42 #[.val (.ref a1), .val (.int (3 : Int32)), .val (.int p3)] [(.int (own_at8 p3 (1 : Int32))), (.int (nar .byte (own_at8 p3 (1 : Int32))))])) _
    refine XS.icmpYes X102.here hx rfl (pc0 := 42) (pc' := 47) rfl (hb hby d9_42) rfl (teq (own_nar8 _ _)).1 (by decide) (by decide) ?_
    show Steps p.tables e below (T102.setTop (mkF m 47 #[.val (.ref a1), .val (.int (3 : Int32)), .val (.int p3)] [])) _
    refine XS.iloadN X102.here hx rfl (hb hby d9_47) rfl ?_
    show Steps p.tables e below (T102.setTop (mkF m 48 #[.val (.ref a1), .val (.int (3 : Int32)), .val (.int p3)] [(.int (3 : Int32))])) _
    refine XS.iconst X102.here hx rfl (hb hby d9_48) ?_
    show Steps p.tables e below (T102.setTop (mkF m 49 #[.val (.ref a1), .val (.int (3 : Int32)), .val (.int p3)] [(.int (2 : Int32)), (.int (3 : Int32))])) _
    refine XS.icmpNo X102.here hx rfl (hb hby d9_49) rfl (tlt (by decide)).2.2.2 ?_
    show Steps p.tables e below (T102.setTop (mkF m 52 #[.val (.ref a1), .val (.int (3 : Int32)), .val (.int p3)] [])) _
    refine XS.aloadN X102.here hx rfl (hb hby d9_52) rfl rfl ?_
    show Steps p.tables e below (T102.setTop (mkF m 53 #[.val (.ref a1), .val (.int (3 : Int32)), .val (.int p3)] [(.ref a1)])) _
    refine XS.iconst X102.here hx rfl (hb hby d9_53) ?_
    show Steps p.tables e below (T102.setTop (mkF m 54 #[.val (.ref a1), .val (.int (3 : Int32)), .val (.int p3)] [(.int (2 : Int32)), (.ref a1)])) _
    refine X102.baloadBytes hx (j := (2 : Int32)) (v := (.int (nar .byte (own_at8 p3 (2 : Int32))))) (by rw [e102]; exact Ar.1) (State.isArrayOf_alike hZ.alike Ar.2.1) Ar.2.2 hin2 hat2 (g := (mkF m 54 #[.val (.ref a1), .val (.int (3 : Int32)), .val (.int p3)] [(.int (2 : Int32)), (.ref a1)])) rfl rfl (hb hby d9_54) _ ?_
    show Steps p.tables e below (T102.setTop (mkF m 55 #[.val (.ref a1), .val (.int (3 : Int32)), .val (.int p3)] [(.int (nar .byte (own_at8 p3 (2 : Int32))))])) _
    refine XS.iloadN X102.here hx rfl (hb hby d9_55) rfl ?_
    show Steps p.tables e below (T102.setTop (mkF m 56 #[.val (.ref a1), .val (.int (3 : Int32)), .val (.int p3)] [(.int p3), (.int (nar .byte (own_at8 p3 (2 : Int32))))])) _
    refine XS.iconst X102.here hx rfl (hb hby d9_56) ?_
    show Steps p.tables e below (T102.setTop (mkF m 57 #[.val (.ref a1), .val (.int (3 : Int32)), .val (.int p3)] [(.int (2 : Int32)), (.int p3), (.int (nar .byte (own_at8 p3 (2 : Int32))))])) _
    refine st103 _ ?_
    show Steps p.tables e below (T103.setTop (mkF m 60 #[.val (.ref a1), .val (.int (3 : Int32)), .val (.int p3)] [(.int (own_at8 p3 (2 : Int32))), (.int (nar .byte (own_at8 p3 (2 : Int32))))])) _
    refine XS.icmpYes X103.here hx rfl (pc0 := 60) (pc' := 65) rfl (hb hby d9_60) rfl (teq (own_nar8 _ _)).1 (by decide) (by decide) ?_
    show Steps p.tables e below (T103.setTop (mkF m 65 #[.val (.ref a1), .val (.int (3 : Int32)), .val (.int p3)] [])) _
    refine XS.iloadN X103.here hx rfl (hb hby d9_65) rfl ?_
    show Steps p.tables e below (T103.setTop (mkF m 66 #[.val (.ref a1), .val (.int (3 : Int32)), .val (.int p3)] [(.int (3 : Int32))])) _
    refine XS.iconst X103.here hx rfl (hb hby d9_66) ?_
    show Steps p.tables e below (T103.setTop (mkF m 67 #[.val (.ref a1), .val (.int (3 : Int32)), .val (.int p3)] [(.int (3 : Int32)), (.int (3 : Int32))])) _
    refine XS.icmpYes X103.here hx rfl (pc0 := 67) (pc' := 83) rfl (hb hby d9_67) rfl (flt (by decide)).2.2.2 (by decide) (by decide) ?_
    show Steps p.tables e below (T103.setTop (mkF m 83 #[.val (.ref a1), .val (.int (3 : Int32)), .val (.int p3)] [])) _
    refine XS.iconst X103.here hx rfl (hb hby d9_83) ?_
    exact k_)
  obtain ⟨fs, hr, hrun, hended, hW, hsame⟩ := X103.leave (v := some (.int (1 : Int32))) (fun h => by rw [Bd.returns] at h; cases h)
  refine ⟨_, _, pre104 _ ?_, hrun, hended, _, _, rfl, ?_, ⟨_, rfl⟩, hW, hsame.mono (by decide) (by decide)⟩
  · show Steps p.tables e below (T103.setTop (mkF m 84 #[.val (.ref a1), .val (.int (3 : Int32)), .val (.int p3)] [(.int (1 : Int32))])) _
    exact retN X103 hx (t := .boolean) Bd.returns (by simp) (hb hby d9_84) hr
  · show QrmH3 Z a1 p3 kx h0 n0 _ T103.heap _
    rw [e103]
    exact ⟨rfl, N103, rfl⟩
theorem d10_32 : decode method_4_code 32 = .ok (.aload_n 0, 1) := by decide +kernel
theorem d10_33 : decode method_4_code 33 = .ok (.iconst 2, 1) := by decide +kernel
theorem d10_34 : decode method_4_code 34 = .ok (.aload_n 0, 1) := by decide +kernel
theorem d10_35 : decode method_4_code 35 = .ok (.iconst 2, 1) := by decide +kernel
theorem d10_36 : decode method_4_code 36 = .ok (.baload, 1) := by decide +kernel
theorem d10_37 : decode method_4_code 37 = .ok (.iconst 1, 1) := by decide +kernel
theorem d10_38 : decode method_4_code 38 = .ok (.ixor, 1) := by decide +kernel
theorem d10_39 : decode method_4_code 39 = .ok (.i2b, 1) := by decide +kernel
theorem d10_40 : decode method_4_code 40 = .ok (.bastore, 1) := by decide +kernel
theorem ef_rmF3 (m : MethodId) (x0 : Addr) (x1 : Int32) : entryFrame m #[(.ref x0), (.int x1)] 2 = mkF m 0 #[.val (.ref x0), .val (.int x1)] [] := by first | (simp [entryFrame, mkF, argsToLocals, Value.category]; done) | rfl
def QrmF3 (Z : State) (a1 : Addr) (kx : ClassId) (x0 : Int32) (x1 : Int32) (x2 : Int32) (h0 : Heap) (n0 : Nat) (v : Option Value) (h : Heap) (L : List Loc) : Prop := v = none ∧ Fr n0 L ∧ Keep h0 h [a1]
set_option maxRecDepth 65536 in
set_option maxHeartbeats 40000000 in
theorem rmF3 (l : Launch) (Z : State) (a0 : Array Value) (hw : ∀ d ∈ tables_1, d.before a0 Z = true) (ws : List Jvm.Cond) (a1 : Addr) (kx : ClassId) (x0 : Int32) (x1 : Int32) (x2 : Int32) (h0 : Heap) (n0 : Nat) (Z0 : n0 ≤ h0.size) (V : Arv Z h0 a1 kx .byte (3 : Int32) [(.int x0), (.int x1), (.int x2)] (.int (0 : Int32))) (g_a1 : n0 ≤ a1) :
    MetFree l (⟨"com/example/ledgerpost/ledgerpost/PayloadOfBytesPinLaw", "flip", "([BI)V"⟩ : MethodName) (head1 (Jvm.Cond.code (⟨"com/example/ledgerpost/ledgerpost/PayloadOfBytesPinLaw", "flip", "([BI)V"⟩ : MethodName) method_4_code 2 none :: ws) ({ frames := 0, cells := 0, slots := 0, locals := 0 } : Room)) (fun a U => a = #[(.ref a1), (.int (3 : Int32))] ∧ Z.Warmed39 U.vm ∧ U.heap = h0) (fun _ _ _ _ _ => True) (fun _ U o U' => ∃ v L, o = .returned v ∧ QrmF3 Z a1 kx x0 x1 x2 h0 n0 v U'.heap L ∧ FrameEnd U o U' L ({ frames := 0, cells := 0, slots := 0, locals := 0 } : Room).cells ({ frames := 0, cells := 0, slots := 0, locals := 0 } : Room).slots) := by
  refine MetFree.of_bodySF (plainFor_of_name pn_0) hisR ?_
  intro p e s m args below meth c s₁ Bd hml0 hP hK
  obtain ⟨rfl, hZ, hh⟩ := hP
  have hx := Bd.exec
  have hby := Bd.bytes
  have hml : c.maxLocals = 2 := hml0
  have hown : s.vm.findClass "com/example/ledgerpost/ledgerpost/PayloadOfBytesPinLaw" = some m.cls := findClass_of_methodNamed Bd.named
  have hnm := (name_of_methodNamed Bd.named Bd.method).1
  have X0 : Stand p l e ({ frames := 0, cells := 0, slots := 0, locals := 0 } : Room) s m #[(.ref a1), (.int (3 : Int32))] below meth c s₁ [] 0 0 := Stand.of_body Bd
  have e0 : s₁.heap = h0 := by rw [← hh, Bd.state]; rfl
  have N0 := Fr.nil n0
  have pre0 : ∀ t_, Steps p.tables e below (s₁.setTop (mkF m 0 #[.val (.ref a1), .val (.int (3 : Int32))] [])) t_ → Steps p.tables e below (s₁.setTop (entryFrame m #[(.ref a1), (.int (3 : Int32))] 2)) t_ := fun t_ k_ => castTop (ef_rmF3 m a1 ((3 : Int32))) k_
  obtain ⟨cl101, Ar101, -, Sz101, -, Hs101, -⟩ := id V
  have hin101 : ¬ ((0 : Int32) < 0 ∨ cl101.slots.size ≤ ((0 : Int32)).toNatClampNeg) := inb_of Sz101 ⟨by decide, by decide⟩
  have hat101 : cl101.slots[((0 : Int32)).toNatClampNeg]? = some (.int x0) := Has.at Hs101 hin101 rfl
  obtain ⟨cl102, Ar102, qk102, Sz102, Ng102, Hs102, Gs102⟩ := V
  have hin102 : ¬ ((0 : Int32) < 0 ∨ cl102.slots.size ≤ ((0 : Int32)).toNatClampNeg) := inb_of Sz102 ⟨by decide, by decide⟩
  obtain ⟨T103, h103, X103, e103, W103, st103⟩ := stB X0 hx hZ e0 Ar102 (j := (0 : Int32)) hin102 (g := (mkF m 12 #[.val (.ref a1), .val (.int (3 : Int32))] [(.int ((x0 ^^^ (1 : Int32)).toInt8.toInt32)), (.int (0 : Int32)), (.ref a1)])) rfl rfl (hb hby d10_12)
  have K_104 := (Keep.refl h0 [a1]).wr W103 (Or.inl (List.mem_of_getElem? (i := 0) rfl))
  have V_a1_103 : Arv Z h103 a1 kx .byte (3 : Int32) [(.int (nar .byte ((x0 ^^^ (1 : Int32)).toInt8.toInt32))), (.int x1), (.int x2)] (.int (0 : Int32)) := Arv.set Ar102 qk102 Sz102 Ng102 Hs102 Gs102 (fits_nar_byte _) W103 0 rfl (Nat.le_of_ble_eq_true rfl)
  have N103 := Fr.snoc X103 N0 g_a1
  have Z105 : n0 ≤ h103.size := Nat.le_trans Z0 ((Keep.of_wr W103).1)
  obtain ⟨cl106, Ar106, -, Sz106, -, Hs106, -⟩ := id V_a1_103
  have hin106 : ¬ ((1 : Int32) < 0 ∨ cl106.slots.size ≤ ((1 : Int32)).toNatClampNeg) := inb_of Sz106 ⟨by decide, by decide⟩
  have hat106 : cl106.slots[((1 : Int32)).toNatClampNeg]? = some (.int x1) := Has.at Hs106 hin106 rfl
  obtain ⟨cl107, Ar107, qk107, Sz107, Ng107, Hs107, Gs107⟩ := V_a1_103
  have hin107 : ¬ ((1 : Int32) < 0 ∨ cl107.slots.size ≤ ((1 : Int32)).toNatClampNeg) := inb_of Sz107 ⟨by decide, by decide⟩
  obtain ⟨T108, h108, X108, e108, W108, st108⟩ := stB X103 hx hZ e103 Ar107 (j := (1 : Int32)) hin107 (g := (mkF m 26 #[.val (.ref a1), .val (.int (3 : Int32))] [(.int ((x1 ^^^ (1 : Int32)).toInt8.toInt32)), (.int (1 : Int32)), (.ref a1)])) rfl rfl (hb hby d10_26)
  have K_109 := K_104.wr W108 (Or.inl (List.mem_of_getElem? (i := 0) rfl))
  have V_a1_108 : Arv Z h108 a1 kx .byte (3 : Int32) [(.int (nar .byte ((x0 ^^^ (1 : Int32)).toInt8.toInt32))), (.int (nar .byte ((x1 ^^^ (1 : Int32)).toInt8.toInt32))), (.int x2)] (.int (0 : Int32)) := Arv.set Ar107 qk107 Sz107 Ng107 Hs107 Gs107 (fits_nar_byte _) W108 1 rfl (Nat.le_of_ble_eq_true rfl)
  have N108 := Fr.snoc X108 N103 g_a1
  have Z110 : n0 ≤ h108.size := Nat.le_trans Z105 ((Keep.of_wr W108).1)
  obtain ⟨cl111, Ar111, -, Sz111, -, Hs111, -⟩ := id V_a1_108
  have hin111 : ¬ ((2 : Int32) < 0 ∨ cl111.slots.size ≤ ((2 : Int32)).toNatClampNeg) := inb_of Sz111 ⟨by decide, by decide⟩
  have hat111 : cl111.slots[((2 : Int32)).toNatClampNeg]? = some (.int x2) := Has.at Hs111 hin111 rfl
  obtain ⟨cl112, Ar112, qk112, Sz112, Ng112, Hs112, Gs112⟩ := V_a1_108
  have hin112 : ¬ ((2 : Int32) < 0 ∨ cl112.slots.size ≤ ((2 : Int32)).toNatClampNeg) := inb_of Sz112 ⟨by decide, by decide⟩
  obtain ⟨T113, h113, X113, e113, W113, st113⟩ := stB X108 hx hZ e108 Ar112 (j := (2 : Int32)) hin112 (g := (mkF m 40 #[.val (.ref a1), .val (.int (3 : Int32))] [(.int ((x2 ^^^ (1 : Int32)).toInt8.toInt32)), (.int (2 : Int32)), (.ref a1)])) rfl rfl (hb hby d10_40)
  have K_114 := K_109.wr W113 (Or.inl (List.mem_of_getElem? (i := 0) rfl))
  have V_a1_113 : Arv Z h113 a1 kx .byte (3 : Int32) [(.int (nar .byte ((x0 ^^^ (1 : Int32)).toInt8.toInt32))), (.int (nar .byte ((x1 ^^^ (1 : Int32)).toInt8.toInt32))), (.int (nar .byte ((x2 ^^^ (1 : Int32)).toInt8.toInt32)))] (.int (0 : Int32)) := Arv.set Ar112 qk112 Sz112 Ng112 Hs112 Gs112 (fits_nar_byte _) W113 2 rfl (Nat.le_of_ble_eq_true rfl)
  have N113 := Fr.snoc X113 N108 g_a1
  have Z115 : n0 ≤ h113.size := Nat.le_trans Z110 ((Keep.of_wr W113).1)
  have pre116 : ∀ t_, Steps p.tables e below (T113.setTop (mkF m 55 #[.val (.ref a1), .val (.int (3 : Int32))] [])) t_ → Steps p.tables e below (s₁.setTop (entryFrame m #[(.ref a1), (.int (3 : Int32))] 2)) t_ := fun t_ k_ => pre0 _ (by
    show Steps p.tables e below (s₁.setTop (mkF m 0 #[.val (.ref a1), .val (.int (3 : Int32))] [])) _
    refine XS.iloadN X0.here hx rfl (hb hby d10_0) rfl ?_
    show Steps p.tables e below (s₁.setTop (mkF m 1 #[.val (.ref a1), .val (.int (3 : Int32))] [(.int (3 : Int32))])) _
    refine XS.ifNo X0.here hx rfl (hb hby d10_1) rfl ((if0 _ _).trans (tlt (by decide)).2.2.2) ?_
    show Steps p.tables e below (s₁.setTop (mkF m 4 #[.val (.ref a1), .val (.int (3 : Int32))] [])) _
    refine XS.aloadN X0.here hx rfl (hb hby d10_4) rfl rfl ?_
    show Steps p.tables e below (s₁.setTop (mkF m 5 #[.val (.ref a1), .val (.int (3 : Int32))] [(.ref a1)])) _
    refine XS.iconst X0.here hx rfl (hb hby d10_5) ?_
    show Steps p.tables e below (s₁.setTop (mkF m 6 #[.val (.ref a1), .val (.int (3 : Int32))] [(.int (0 : Int32)), (.ref a1)])) _
    refine XS.aloadN X0.here hx rfl (hb hby d10_6) rfl rfl ?_
    show Steps p.tables e below (s₁.setTop (mkF m 7 #[.val (.ref a1), .val (.int (3 : Int32))] [(.ref a1), (.int (0 : Int32)), (.ref a1)])) _
    refine XS.iconst X0.here hx rfl (hb hby d10_7) ?_
    show Steps p.tables e below (s₁.setTop (mkF m 8 #[.val (.ref a1), .val (.int (3 : Int32))] [(.int (0 : Int32)), (.ref a1), (.int (0 : Int32)), (.ref a1)])) _
    refine X0.baloadBytes hx (j := (0 : Int32)) (v := (.int x0)) (by rw [e0]; exact Ar101.1) (State.isArrayOf_alike hZ.alike Ar101.2.1) Ar101.2.2 hin101 hat101 (g := (mkF m 8 #[.val (.ref a1), .val (.int (3 : Int32))] [(.int (0 : Int32)), (.ref a1), (.int (0 : Int32)), (.ref a1)])) rfl rfl (hb hby d10_8) _ ?_
    show Steps p.tables e below (s₁.setTop (mkF m 9 #[.val (.ref a1), .val (.int (3 : Int32))] [(.int x0), (.int (0 : Int32)), (.ref a1)])) _
    refine XS.iconst X0.here hx rfl (hb hby d10_9) ?_
    show Steps p.tables e below (s₁.setTop (mkF m 10 #[.val (.ref a1), .val (.int (3 : Int32))] [(.int (1 : Int32)), (.int x0), (.int (0 : Int32)), (.ref a1)])) _
    refine XS.ixor X0.here hx rfl (hb hby d10_10) rfl ?_
    show Steps p.tables e below (s₁.setTop (mkF m 11 #[.val (.ref a1), .val (.int (3 : Int32))] [(.int (x0 ^^^ (1 : Int32))), (.int (0 : Int32)), (.ref a1)])) _
    refine XS.i2b X0.here hx rfl (hb hby d10_11) rfl ?_
    show Steps p.tables e below (s₁.setTop (mkF m 12 #[.val (.ref a1), .val (.int (3 : Int32))] [(.int ((x0 ^^^ (1 : Int32)).toInt8.toInt32)), (.int (0 : Int32)), (.ref a1)])) _
    refine st103 _ ?_
    show Steps p.tables e below (T103.setTop (mkF m 13 #[.val (.ref a1), .val (.int (3 : Int32))] [])) _
    refine XS.iloadN X103.here hx rfl (hb hby d10_13) rfl ?_
    show Steps p.tables e below (T103.setTop (mkF m 14 #[.val (.ref a1), .val (.int (3 : Int32))] [(.int (3 : Int32))])) _
    refine XS.iconst X103.here hx rfl (hb hby d10_14) ?_
    show Steps p.tables e below (T103.setTop (mkF m 15 #[.val (.ref a1), .val (.int (3 : Int32))] [(.int (1 : Int32)), (.int (3 : Int32))])) _
    refine XS.icmpNo X103.here hx rfl (hb hby d10_15) rfl (tlt (by decide)).2.2.2 ?_
    show Steps p.tables e below (T103.setTop (mkF m 18 #[.val (.ref a1), .val (.int (3 : Int32))] [])) _
    refine XS.aloadN X103.here hx rfl (hb hby d10_18) rfl rfl ?_
    show Steps p.tables e below (T103.setTop (mkF m 19 #[.val (.ref a1), .val (.int (3 : Int32))] [(.ref a1)])) _
    refine XS.iconst X103.here hx rfl (hb hby d10_19) ?_
    show Steps p.tables e below (T103.setTop (mkF m 20 #[.val (.ref a1), .val (.int (3 : Int32))] [(.int (1 : Int32)), (.ref a1)])) _
    refine XS.aloadN X103.here hx rfl (hb hby d10_20) rfl rfl ?_
    show Steps p.tables e below (T103.setTop (mkF m 21 #[.val (.ref a1), .val (.int (3 : Int32))] [(.ref a1), (.int (1 : Int32)), (.ref a1)])) _
    refine XS.iconst X103.here hx rfl (hb hby d10_21) ?_
    show Steps p.tables e below (T103.setTop (mkF m 22 #[.val (.ref a1), .val (.int (3 : Int32))] [(.int (1 : Int32)), (.ref a1), (.int (1 : Int32)), (.ref a1)])) _
    refine X103.baloadBytes hx (j := (1 : Int32)) (v := (.int x1)) (by rw [e103]; exact Ar106.1) (State.isArrayOf_alike hZ.alike Ar106.2.1) Ar106.2.2 hin106 hat106 (g := (mkF m 22 #[.val (.ref a1), .val (.int (3 : Int32))] [(.int (1 : Int32)), (.ref a1), (.int (1 : Int32)), (.ref a1)])) rfl rfl (hb hby d10_22) _ ?_
    show Steps p.tables e below (T103.setTop (mkF m 23 #[.val (.ref a1), .val (.int (3 : Int32))] [(.int x1), (.int (1 : Int32)), (.ref a1)])) _
    refine XS.iconst X103.here hx rfl (hb hby d10_23) ?_
    show Steps p.tables e below (T103.setTop (mkF m 24 #[.val (.ref a1), .val (.int (3 : Int32))] [(.int (1 : Int32)), (.int x1), (.int (1 : Int32)), (.ref a1)])) _
    refine XS.ixor X103.here hx rfl (hb hby d10_24) rfl ?_
    show Steps p.tables e below (T103.setTop (mkF m 25 #[.val (.ref a1), .val (.int (3 : Int32))] [(.int (x1 ^^^ (1 : Int32))), (.int (1 : Int32)), (.ref a1)])) _
    refine XS.i2b X103.here hx rfl (hb hby d10_25) rfl ?_
    show Steps p.tables e below (T103.setTop (mkF m 26 #[.val (.ref a1), .val (.int (3 : Int32))] [(.int ((x1 ^^^ (1 : Int32)).toInt8.toInt32)), (.int (1 : Int32)), (.ref a1)])) _
    refine st108 _ ?_
    show Steps p.tables e below (T108.setTop (mkF m 27 #[.val (.ref a1), .val (.int (3 : Int32))] [])) _
    refine XS.iloadN X108.here hx rfl (hb hby d10_27) rfl ?_
    show Steps p.tables e below (T108.setTop (mkF m 28 #[.val (.ref a1), .val (.int (3 : Int32))] [(.int (3 : Int32))])) _
    refine XS.iconst X108.here hx rfl (hb hby d10_28) ?_
    show Steps p.tables e below (T108.setTop (mkF m 29 #[.val (.ref a1), .val (.int (3 : Int32))] [(.int (2 : Int32)), (.int (3 : Int32))])) _
    refine XS.icmpNo X108.here hx rfl (hb hby d10_29) rfl (tlt (by decide)).2.2.2 ?_
    show Steps p.tables e below (T108.setTop (mkF m 32 #[.val (.ref a1), .val (.int (3 : Int32))] [])) _
    refine XS.aloadN X108.here hx rfl (hb hby d10_32) rfl rfl ?_
    show Steps p.tables e below (T108.setTop (mkF m 33 #[.val (.ref a1), .val (.int (3 : Int32))] [(.ref a1)])) _
    refine XS.iconst X108.here hx rfl (hb hby d10_33) ?_
    show Steps p.tables e below (T108.setTop (mkF m 34 #[.val (.ref a1), .val (.int (3 : Int32))] [(.int (2 : Int32)), (.ref a1)])) _
    refine XS.aloadN X108.here hx rfl (hb hby d10_34) rfl rfl ?_
    show Steps p.tables e below (T108.setTop (mkF m 35 #[.val (.ref a1), .val (.int (3 : Int32))] [(.ref a1), (.int (2 : Int32)), (.ref a1)])) _
    refine XS.iconst X108.here hx rfl (hb hby d10_35) ?_
    show Steps p.tables e below (T108.setTop (mkF m 36 #[.val (.ref a1), .val (.int (3 : Int32))] [(.int (2 : Int32)), (.ref a1), (.int (2 : Int32)), (.ref a1)])) _
    refine X108.baloadBytes hx (j := (2 : Int32)) (v := (.int x2)) (by rw [e108]; exact Ar111.1) (State.isArrayOf_alike hZ.alike Ar111.2.1) Ar111.2.2 hin111 hat111 (g := (mkF m 36 #[.val (.ref a1), .val (.int (3 : Int32))] [(.int (2 : Int32)), (.ref a1), (.int (2 : Int32)), (.ref a1)])) rfl rfl (hb hby d10_36) _ ?_
    show Steps p.tables e below (T108.setTop (mkF m 37 #[.val (.ref a1), .val (.int (3 : Int32))] [(.int x2), (.int (2 : Int32)), (.ref a1)])) _
    refine XS.iconst X108.here hx rfl (hb hby d10_37) ?_
    show Steps p.tables e below (T108.setTop (mkF m 38 #[.val (.ref a1), .val (.int (3 : Int32))] [(.int (1 : Int32)), (.int x2), (.int (2 : Int32)), (.ref a1)])) _
    refine XS.ixor X108.here hx rfl (hb hby d10_38) rfl ?_
    show Steps p.tables e below (T108.setTop (mkF m 39 #[.val (.ref a1), .val (.int (3 : Int32))] [(.int (x2 ^^^ (1 : Int32))), (.int (2 : Int32)), (.ref a1)])) _
    refine XS.i2b X108.here hx rfl (hb hby d10_39) rfl ?_
    show Steps p.tables e below (T108.setTop (mkF m 40 #[.val (.ref a1), .val (.int (3 : Int32))] [(.int ((x2 ^^^ (1 : Int32)).toInt8.toInt32)), (.int (2 : Int32)), (.ref a1)])) _
    refine st113 _ ?_
    show Steps p.tables e below (T113.setTop (mkF m 41 #[.val (.ref a1), .val (.int (3 : Int32))] [])) _
    refine XS.iloadN X113.here hx rfl (hb hby d10_41) rfl ?_
    show Steps p.tables e below (T113.setTop (mkF m 42 #[.val (.ref a1), .val (.int (3 : Int32))] [(.int (3 : Int32))])) _
    refine XS.iconst X113.here hx rfl (hb hby d10_42) ?_
    show Steps p.tables e below (T113.setTop (mkF m 43 #[.val (.ref a1), .val (.int (3 : Int32))] [(.int (3 : Int32)), (.int (3 : Int32))])) _
    refine XS.icmpYes X113.here hx rfl (pc0 := 43) (pc' := 55) rfl (hb hby d10_43) rfl (flt (by decide)).2.2.2 (by decide) (by decide) ?_
    exact k_)
  obtain ⟨fs, hr, hrun, hended, hW, hsame⟩ := X113.leave (v := none) (fun _ => rfl)
  refine ⟨_, _, pre116 _ ?_, hrun, hended, _, _, rfl, ?_, ⟨_, rfl⟩, hW, hsame.mono (by decide) (by decide)⟩
  · show Steps p.tables e below (T113.setTop (mkF m 55 #[.val (.ref a1), .val (.int (3 : Int32))] [])) _
    exact X113.returnOut hx Bd.returns (hb hby d10_55) hr
  · show QrmF3 Z a1 kx x0 x1 x2 h0 n0 _ T113.heap _
    rw [e113]
    exact ⟨rfl, N113, K_114⟩
theorem d9_70 : decode method_3_code 70 = .ok (.aload_n 0, 1) := by decide +kernel
theorem d9_71 : decode method_3_code 71 = .ok (.iconst 3, 1) := by decide +kernel
theorem d9_72 : decode method_3_code 72 = .ok (.baload, 1) := by decide +kernel
theorem d9_73 : decode method_3_code 73 = .ok (.iload_n 2, 1) := by decide +kernel
theorem d9_74 : decode method_3_code 74 = .ok (.iconst 3, 1) := by decide +kernel
theorem d9_75 : decode method_3_code 75 = .ok (.invokestatic 7, 3) := by decide +kernel
theorem d9_78 : decode method_3_code 78 = .ok (.if_icmp .eq 5, 3) := by decide +kernel
theorem ef_rmH4 (m : MethodId) (x0 : Addr) (x1 : Int32) (x2 : Int32) : entryFrame m #[(.ref x0), (.int x1), (.int x2)] 3 = mkF m 0 #[.val (.ref x0), .val (.int x1), .val (.int x2)] [] := by first | (simp [entryFrame, mkF, argsToLocals, Value.category]; done) | rfl
def QrmH4 (Z : State) (a1 : Addr) (p3 : Int32) (kx : ClassId) (h0 : Heap) (n0 : Nat) (v : Option Value) (h : Heap) (L : List Loc) : Prop := v = some (.int 1) ∧ Fr n0 L ∧ h = h0
set_option maxRecDepth 65536 in
set_option maxHeartbeats 40000000 in
theorem rmH4 (l : Launch) (Z : State) (a0 : Array Value) (hw : ∀ d ∈ tables_1, d.before a0 Z = true) (ws : List Jvm.Cond) (a1 : Addr) (p3 : Int32) (kx : ClassId) (h0 : Heap) (n0 : Nat) (Z0 : n0 ≤ h0.size) (V : Arv Z h0 a1 kx .byte (4 : Int32) [(.int (nar .byte (own_at8 p3 (0 : Int32)))), (.int (nar .byte (own_at8 p3 (1 : Int32)))), (.int (nar .byte (own_at8 p3 (2 : Int32)))), (.int (nar .byte (own_at8 p3 (3 : Int32))))] (.int (0 : Int32))) :
    MetFree l (⟨"com/example/ledgerpost/ledgerpost/PayloadOfBytesPinLaw", "holds", "([BII)Z"⟩ : MethodName) (head1 (Jvm.Cond.code (⟨"com/example/ledgerpost/ledgerpost/PayloadOfBytesPinLaw", "holds", "([BII)Z"⟩ : MethodName) method_3_code 3 (some .boolean) :: ws) ({ frames := 1, cells := 0, slots := 0, locals := 14 } : Room)) (fun a U => a = #[(.ref a1), (.int (4 : Int32)), (.int p3)] ∧ Z.Warmed39 U.vm ∧ U.heap = h0) (fun _ _ _ _ _ => True) (fun _ U o U' => ∃ v L, o = .returned v ∧ QrmH4 Z a1 p3 kx h0 n0 v U'.heap L ∧ FrameEnd U o U' L ({ frames := 1, cells := 0, slots := 0, locals := 14 } : Room).cells ({ frames := 1, cells := 0, slots := 0, locals := 14 } : Room).slots) := by
  refine MetFree.of_bodySF (plainFor_of_name pn_0) hisR ?_
  intro p e s m args below meth c s₁ Bd hml0 hP hK
  obtain ⟨rfl, hZ, hh⟩ := hP
  have hx := Bd.exec
  have hby := Bd.bytes
  have hml : c.maxLocals = 3 := hml0
  have hown : s.vm.findClass "com/example/ledgerpost/ledgerpost/PayloadOfBytesPinLaw" = some m.cls := findClass_of_methodNamed Bd.named
  have hnm := (name_of_methodNamed Bd.named Bd.method).1
  have X0 : Stand p l e ({ frames := 1, cells := 0, slots := 0, locals := 14 } : Room) s m #[(.ref a1), (.int (4 : Int32)), (.int p3)] below meth c s₁ [] 0 0 := Stand.of_body Bd
  have e0 : s₁.heap = h0 := by rw [← hh, Bd.state]; rfl
  have N0 := Fr.nil n0
  have pre0 : ∀ t_, Steps p.tables e below (s₁.setTop (mkF m 0 #[.val (.ref a1), .val (.int (4 : Int32)), .val (.int p3)] [])) t_ → Steps p.tables e below (s₁.setTop (entryFrame m #[(.ref a1), (.int (4 : Int32)), (.int p3)] 3)) t_ := fun t_ k_ => castTop (ef_rmH4 m a1 ((4 : Int32)) p3) k_
  obtain ⟨cl, Ar, -, Sz, Ng, Hs, -⟩ := V
  have hin0 : ¬ ((0 : Int32) < 0 ∨ cl.slots.size ≤ ((0 : Int32)).toNatClampNeg) := inb_of Sz ⟨by decide, by decide⟩
  have hat0 : cl.slots[((0 : Int32)).toNatClampNeg]? = some (.int (nar .byte (own_at8 p3 (0 : Int32)))) := Has.at Hs hin0 rfl
  obtain ⟨_, _, ⟨T101, L101, k101, n101⟩, -, X101, ⟨Lc101, hQ101, l101, y101, z101⟩, st101⟩ := Jvm.LawKit.callS X0 hx (y := (⟨"com/example/ledgerpost/ledgerpost/PayloadOfBytesPinLaw", "at", "(II)B"⟩ : MethodName)) hown (mvT hZ (hw _ (List.mem_of_getElem? (i := 65) rfl))) (mvT hZ (hw _ (List.mem_of_getElem? (i := 66) rfl))) (mvT hZ (hw _ (List.mem_of_getElem? (i := 60) rfl))) (mvT hZ (hw _ (List.mem_of_getElem? (i := 67) rfl))) (by decide) (backOf (W := 1) (rmA l Z a0 hw [] p3 (0 : Int32) h0 n0 Z0 ) hZ (hw _ (List.mem_of_getElem? (i := 67) rfl)) (hw _ (List.mem_of_getElem? (i := 60) rfl)) (by decide) (by decide)) (g := (mkF m 21 #[.val (.ref a1), .val (.int (4 : Int32)), .val (.int p3)] [(.int (0 : Int32)), (.int p3), (.int (nar .byte (own_at8 p3 (0 : Int32))))])) rfl (by rw [hml]; rfl) (argsL := [(.int p3), (.int (0 : Int32))]) (rest := [(.int (nar .byte (own_at8 p3 (0 : Int32))))]) (lenOf pd_2 rfl) rfl (by show 2 * 0 + _ ≤ _; exact Nat.le_of_eq rfl) (hb hby d9_21) (fun _ _ => ⟨rfl, e0, (by decide : 0 + 0 ≤ _), (by decide : 0 + 0 ≤ _)⟩)
  dsimp only [Pt.U, Pt.locs, Pt.cells, Pt.slots] at X101 l101 y101 z101 st101 hQ101
  subst l101 y101 z101
  obtain ⟨rfl, N101q, e101⟩ := hQ101
  have N101 := Fr.app N0 N101q
  have hin1 : ¬ ((1 : Int32) < 0 ∨ cl.slots.size ≤ ((1 : Int32)).toNatClampNeg) := inb_of Sz ⟨by decide, by decide⟩
  have hat1 : cl.slots[((1 : Int32)).toNatClampNeg]? = some (.int (nar .byte (own_at8 p3 (1 : Int32)))) := Has.at Hs hin1 rfl
  obtain ⟨_, _, ⟨T102, L102, k102, n102⟩, -, X102, ⟨Lc102, hQ102, l102, y102, z102⟩, st102⟩ := Jvm.LawKit.callS X101 hx (y := (⟨"com/example/ledgerpost/ledgerpost/PayloadOfBytesPinLaw", "at", "(II)B"⟩ : MethodName)) hown (mvT hZ (hw _ (List.mem_of_getElem? (i := 65) rfl))) (mvT hZ (hw _ (List.mem_of_getElem? (i := 66) rfl))) (mvT hZ (hw _ (List.mem_of_getElem? (i := 60) rfl))) (mvT hZ (hw _ (List.mem_of_getElem? (i := 67) rfl))) (by decide) (backOf (W := 1) (rmA l Z a0 hw [] p3 (1 : Int32) h0 n0 Z0 ) hZ (hw _ (List.mem_of_getElem? (i := 67) rfl)) (hw _ (List.mem_of_getElem? (i := 60) rfl)) (by decide) (by decide)) (g := (mkF m 39 #[.val (.ref a1), .val (.int (4 : Int32)), .val (.int p3)] [(.int (1 : Int32)), (.int p3), (.int (nar .byte (own_at8 p3 (1 : Int32))))])) rfl (by rw [hml]; rfl) (argsL := [(.int p3), (.int (1 : Int32))]) (rest := [(.int (nar .byte (own_at8 p3 (1 : Int32))))]) (lenOf pd_2 rfl) rfl (by show 2 * 0 + _ ≤ _; exact Nat.le_of_eq rfl) (hb hby d9_39) (fun _ _ => ⟨rfl, e101, (by decide : 0 + 0 ≤ _), (by decide : 0 + 0 ≤ _)⟩)
  dsimp only [Pt.U, Pt.locs, Pt.cells, Pt.slots] at X102 l102 y102 z102 st102 hQ102
  subst l102 y102 z102
  obtain ⟨rfl, N102q, e102⟩ := hQ102
  have N102 := Fr.app N101 N102q
  have hin2 : ¬ ((2 : Int32) < 0 ∨ cl.slots.size ≤ ((2 : Int32)).toNatClampNeg) := inb_of Sz ⟨by decide, by decide⟩
  have hat2 : cl.slots[((2 : Int32)).toNatClampNeg]? = some (.int (nar .byte (own_at8 p3 (2 : Int32)))) := Has.at Hs hin2 rfl
  obtain ⟨_, _, ⟨T103, L103, k103, n103⟩, -, X103, ⟨Lc103, hQ103, l103, y103, z103⟩, st103⟩ := Jvm.LawKit.callS X102 hx (y := (⟨"com/example/ledgerpost/ledgerpost/PayloadOfBytesPinLaw", "at", "(II)B"⟩ : MethodName)) hown (mvT hZ (hw _ (List.mem_of_getElem? (i := 65) rfl))) (mvT hZ (hw _ (List.mem_of_getElem? (i := 66) rfl))) (mvT hZ (hw _ (List.mem_of_getElem? (i := 60) rfl))) (mvT hZ (hw _ (List.mem_of_getElem? (i := 67) rfl))) (by decide) (backOf (W := 1) (rmA l Z a0 hw [] p3 (2 : Int32) h0 n0 Z0 ) hZ (hw _ (List.mem_of_getElem? (i := 67) rfl)) (hw _ (List.mem_of_getElem? (i := 60) rfl)) (by decide) (by decide)) (g := (mkF m 57 #[.val (.ref a1), .val (.int (4 : Int32)), .val (.int p3)] [(.int (2 : Int32)), (.int p3), (.int (nar .byte (own_at8 p3 (2 : Int32))))])) rfl (by rw [hml]; rfl) (argsL := [(.int p3), (.int (2 : Int32))]) (rest := [(.int (nar .byte (own_at8 p3 (2 : Int32))))]) (lenOf pd_2 rfl) rfl (by show 2 * 0 + _ ≤ _; exact Nat.le_of_eq rfl) (hb hby d9_57) (fun _ _ => ⟨rfl, e102, (by decide : 0 + 0 ≤ _), (by decide : 0 + 0 ≤ _)⟩)
  dsimp only [Pt.U, Pt.locs, Pt.cells, Pt.slots] at X103 l103 y103 z103 st103 hQ103
  subst l103 y103 z103
  obtain ⟨rfl, N103q, e103⟩ := hQ103
  have N103 := Fr.app N102 N103q
  have hin3 : ¬ ((3 : Int32) < 0 ∨ cl.slots.size ≤ ((3 : Int32)).toNatClampNeg) := inb_of Sz ⟨by decide, by decide⟩
  have hat3 : cl.slots[((3 : Int32)).toNatClampNeg]? = some (.int (nar .byte (own_at8 p3 (3 : Int32)))) := Has.at Hs hin3 rfl
  obtain ⟨_, _, ⟨T104, L104, k104, n104⟩, -, X104, ⟨Lc104, hQ104, l104, y104, z104⟩, st104⟩ := Jvm.LawKit.callS X103 hx (y := (⟨"com/example/ledgerpost/ledgerpost/PayloadOfBytesPinLaw", "at", "(II)B"⟩ : MethodName)) hown (mvT hZ (hw _ (List.mem_of_getElem? (i := 65) rfl))) (mvT hZ (hw _ (List.mem_of_getElem? (i := 66) rfl))) (mvT hZ (hw _ (List.mem_of_getElem? (i := 60) rfl))) (mvT hZ (hw _ (List.mem_of_getElem? (i := 67) rfl))) (by decide) (backOf (W := 1) (rmA l Z a0 hw [] p3 (3 : Int32) h0 n0 Z0 ) hZ (hw _ (List.mem_of_getElem? (i := 67) rfl)) (hw _ (List.mem_of_getElem? (i := 60) rfl)) (by decide) (by decide)) (g := (mkF m 75 #[.val (.ref a1), .val (.int (4 : Int32)), .val (.int p3)] [(.int (3 : Int32)), (.int p3), (.int (nar .byte (own_at8 p3 (3 : Int32))))])) rfl (by rw [hml]; rfl) (argsL := [(.int p3), (.int (3 : Int32))]) (rest := [(.int (nar .byte (own_at8 p3 (3 : Int32))))]) (lenOf pd_2 rfl) rfl (by show 2 * 0 + _ ≤ _; exact Nat.le_of_eq rfl) (hb hby d9_75) (fun _ _ => ⟨rfl, e103, (by decide : 0 + 0 ≤ _), (by decide : 0 + 0 ≤ _)⟩)
  dsimp only [Pt.U, Pt.locs, Pt.cells, Pt.slots] at X104 l104 y104 z104 st104 hQ104
  subst l104 y104 z104
  obtain ⟨rfl, N104q, e104⟩ := hQ104
  have N104 := Fr.app N103 N104q
  have pre105 : ∀ t_, Steps p.tables e below (T104.setTop (mkF m 84 #[.val (.ref a1), .val (.int (4 : Int32)), .val (.int p3)] [(.int (1 : Int32))])) t_ → Steps p.tables e below (s₁.setTop (entryFrame m #[(.ref a1), (.int (4 : Int32)), (.int p3)] 3)) t_ := fun t_ k_ => pre0 _ (by
    show Steps p.tables e below (s₁.setTop (mkF m 0 #[.val (.ref a1), .val (.int (4 : Int32)), .val (.int p3)] [])) _
    refine XS.aloadN X0.here hx rfl (hb hby d9_0) rfl rfl ?_
    show Steps p.tables e below (s₁.setTop (mkF m 1 #[.val (.ref a1), .val (.int (4 : Int32)), .val (.int p3)] [(.ref a1)])) _
    refine XS.ifnullNo X0.here hx rfl (hb hby d9_1) rfl ?_
    show Steps p.tables e below (s₁.setTop (mkF m 4 #[.val (.ref a1), .val (.int (4 : Int32)), .val (.int p3)] [])) _
    refine XS.aloadN X0.here hx rfl (hb hby d9_4) rfl rfl ?_
    show Steps p.tables e below (s₁.setTop (mkF m 5 #[.val (.ref a1), .val (.int (4 : Int32)), .val (.int p3)] [(.ref a1)])) _
    refine X0.arraylength hx (by rw [e0]; exact Ar.1) (State.isArrayOf_alike hZ.alike Ar.2.1) (g := (mkF m 5 #[.val (.ref a1), .val (.int (4 : Int32)), .val (.int p3)] [(.ref a1)])) rfl rfl (hb hby d9_5) _ ?_
    rw [len_of Sz Ng]
    show Steps p.tables e below (s₁.setTop (mkF m 6 #[.val (.ref a1), .val (.int (4 : Int32)), .val (.int p3)] [(.int (4 : Int32))])) _
    refine XS.iloadN X0.here hx rfl (hb hby d9_6) rfl ?_
    show Steps p.tables e below (s₁.setTop (mkF m 7 #[.val (.ref a1), .val (.int (4 : Int32)), .val (.int p3)] [(.int (4 : Int32)), (.int (4 : Int32))])) _
    refine XS.icmpYes X0.here hx rfl (pc0 := 7) (pc' := 12) rfl (hb hby d9_7) rfl (teq rfl).1 (by decide) (by decide) ?_
    show Steps p.tables e below (s₁.setTop (mkF m 12 #[.val (.ref a1), .val (.int (4 : Int32)), .val (.int p3)] [])) _
    refine XS.iloadN X0.here hx rfl (hb hby d9_12) rfl ?_
    show Steps p.tables e below (s₁.setTop (mkF m 13 #[.val (.ref a1), .val (.int (4 : Int32)), .val (.int p3)] [(.int (4 : Int32))])) _
    refine XS.ifNo X0.here hx rfl (hb hby d9_13) rfl ((if0 _ _).trans (tlt (by decide)).2.2.2) ?_
    show Steps p.tables e below (s₁.setTop (mkF m 16 #[.val (.ref a1), .val (.int (4 : Int32)), .val (.int p3)] [])) _
    refine XS.aloadN X0.here hx rfl (hb hby d9_16) rfl rfl ?_
    show Steps p.tables e below (s₁.setTop (mkF m 17 #[.val (.ref a1), .val (.int (4 : Int32)), .val (.int p3)] [(.ref a1)])) _
    refine XS.iconst X0.here hx rfl (hb hby d9_17) ?_
    show Steps p.tables e below (s₁.setTop (mkF m 18 #[.val (.ref a1), .val (.int (4 : Int32)), .val (.int p3)] [(.int (0 : Int32)), (.ref a1)])) _
    refine X0.baloadBytes hx (j := (0 : Int32)) (v := (.int (nar .byte (own_at8 p3 (0 : Int32))))) (by rw [e0]; exact Ar.1) (State.isArrayOf_alike hZ.alike Ar.2.1) Ar.2.2 hin0 hat0 (g := (mkF m 18 #[.val (.ref a1), .val (.int (4 : Int32)), .val (.int p3)] [(.int (0 : Int32)), (.ref a1)])) rfl rfl (hb hby d9_18) _ ?_
    show Steps p.tables e below (s₁.setTop (mkF m 19 #[.val (.ref a1), .val (.int (4 : Int32)), .val (.int p3)] [(.int (nar .byte (own_at8 p3 (0 : Int32))))])) _
    refine XS.iloadN X0.here hx rfl (hb hby d9_19) rfl ?_
    show Steps p.tables e below (s₁.setTop (mkF m 20 #[.val (.ref a1), .val (.int (4 : Int32)), .val (.int p3)] [(.int p3), (.int (nar .byte (own_at8 p3 (0 : Int32))))])) _
    refine XS.iconst X0.here hx rfl (hb hby d9_20) ?_
    show Steps p.tables e below (s₁.setTop (mkF m 21 #[.val (.ref a1), .val (.int (4 : Int32)), .val (.int p3)] [(.int (0 : Int32)), (.int p3), (.int (nar .byte (own_at8 p3 (0 : Int32))))])) _
    refine st101 _ ?_
    show Steps p.tables e below (T101.setTop (mkF m 24 #[.val (.ref a1), .val (.int (4 : Int32)), .val (.int p3)] [(.int (own_at8 p3 (0 : Int32))), (.int (nar .byte (own_at8 p3 (0 : Int32))))])) _
    refine XS.icmpYes X101.here hx rfl (pc0 := 24) (pc' := 29) rfl (hb hby d9_24) rfl (teq (own_nar8 _ _)).1 (by decide) (by decide) ?_
    show Steps p.tables e below (T101.setTop (mkF m 29 #[.val (.ref a1), .val (.int (4 : Int32)), .val (.int p3)] [])) _
    refine XS.iloadN X101.here hx rfl (hb hby d9_29) rfl ?_
    show Steps p.tables e below (T101.setTop (mkF m 30 #[.val (.ref a1), .val (.int (4 : Int32)), .val (.int p3)] [(.int (4 : Int32))])) _
    refine XS.iconst X101.here hx rfl (hb hby d9_30) ?_
    show Steps p.tables e below (T101.setTop (mkF m 31 #[.val (.ref a1), .val (.int (4 : Int32)), .val (.int p3)] [(.int (1 : Int32)), (.int (4 : Int32))])) _
    refine XS.icmpNo X101.here hx rfl (hb hby d9_31) rfl (tlt (by decide)).2.2.2 ?_
    show Steps p.tables e below (T101.setTop (mkF m 34 #[.val (.ref a1), .val (.int (4 : Int32)), .val (.int p3)] [])) _
    refine XS.aloadN X101.here hx rfl (hb hby d9_34) rfl rfl ?_
    show Steps p.tables e below (T101.setTop (mkF m 35 #[.val (.ref a1), .val (.int (4 : Int32)), .val (.int p3)] [(.ref a1)])) _
    refine XS.iconst X101.here hx rfl (hb hby d9_35) ?_
    show Steps p.tables e below (T101.setTop (mkF m 36 #[.val (.ref a1), .val (.int (4 : Int32)), .val (.int p3)] [(.int (1 : Int32)), (.ref a1)])) _
    refine X101.baloadBytes hx (j := (1 : Int32)) (v := (.int (nar .byte (own_at8 p3 (1 : Int32))))) (by rw [e101]; exact Ar.1) (State.isArrayOf_alike hZ.alike Ar.2.1) Ar.2.2 hin1 hat1 (g := (mkF m 36 #[.val (.ref a1), .val (.int (4 : Int32)), .val (.int p3)] [(.int (1 : Int32)), (.ref a1)])) rfl rfl (hb hby d9_36) _ ?_
    show Steps p.tables e below (T101.setTop (mkF m 37 #[.val (.ref a1), .val (.int (4 : Int32)), .val (.int p3)] [(.int (nar .byte (own_at8 p3 (1 : Int32))))])) _
    refine XS.iloadN X101.here hx rfl (hb hby d9_37) rfl ?_
    show Steps p.tables e below (T101.setTop (mkF m 38 #[.val (.ref a1), .val (.int (4 : Int32)), .val (.int p3)] [(.int p3), (.int (nar .byte (own_at8 p3 (1 : Int32))))])) _
    refine XS.iconst X101.here hx rfl (hb hby d9_38) ?_
    show Steps p.tables e below (T101.setTop (mkF m 39 #[.val (.ref a1), .val (.int (4 : Int32)), .val (.int p3)] [(.int (1 : Int32)), (.int p3), (.int (nar .byte (own_at8 p3 (1 : Int32))))])) _
    refine st102 _ ?_
    show Steps p.tables e below (T102.setTop (mkF m 42 #[.val (.ref a1), .val (.int (4 : Int32)), .val (.int p3)] [(.int (own_at8 p3 (1 : Int32))), (.int (nar .byte (own_at8 p3 (1 : Int32))))])) _
    refine XS.icmpYes X102.here hx rfl (pc0 := 42) (pc' := 47) rfl (hb hby d9_42) rfl (teq (own_nar8 _ _)).1 (by decide) (by decide) ?_
    show Steps p.tables e below (T102.setTop (mkF m 47 #[.val (.ref a1), .val (.int (4 : Int32)), .val (.int p3)] [])) _
    refine XS.iloadN X102.here hx rfl (hb hby d9_47) rfl ?_
    show Steps p.tables e below (T102.setTop (mkF m 48 #[.val (.ref a1), .val (.int (4 : Int32)), .val (.int p3)] [(.int (4 : Int32))])) _
    refine XS.iconst X102.here hx rfl (hb hby d9_48) ?_
    show Steps p.tables e below (T102.setTop (mkF m 49 #[.val (.ref a1), .val (.int (4 : Int32)), .val (.int p3)] [(.int (2 : Int32)), (.int (4 : Int32))])) _
    refine XS.icmpNo X102.here hx rfl (hb hby d9_49) rfl (tlt (by decide)).2.2.2 ?_
    show Steps p.tables e below (T102.setTop (mkF m 52 #[.val (.ref a1), .val (.int (4 : Int32)), .val (.int p3)] [])) _
    refine XS.aloadN X102.here hx rfl (hb hby d9_52) rfl rfl ?_
    show Steps p.tables e below (T102.setTop (mkF m 53 #[.val (.ref a1), .val (.int (4 : Int32)), .val (.int p3)] [(.ref a1)])) _
    refine XS.iconst X102.here hx rfl (hb hby d9_53) ?_
    show Steps p.tables e below (T102.setTop (mkF m 54 #[.val (.ref a1), .val (.int (4 : Int32)), .val (.int p3)] [(.int (2 : Int32)), (.ref a1)])) _
    refine X102.baloadBytes hx (j := (2 : Int32)) (v := (.int (nar .byte (own_at8 p3 (2 : Int32))))) (by rw [e102]; exact Ar.1) (State.isArrayOf_alike hZ.alike Ar.2.1) Ar.2.2 hin2 hat2 (g := (mkF m 54 #[.val (.ref a1), .val (.int (4 : Int32)), .val (.int p3)] [(.int (2 : Int32)), (.ref a1)])) rfl rfl (hb hby d9_54) _ ?_
    show Steps p.tables e below (T102.setTop (mkF m 55 #[.val (.ref a1), .val (.int (4 : Int32)), .val (.int p3)] [(.int (nar .byte (own_at8 p3 (2 : Int32))))])) _
    refine XS.iloadN X102.here hx rfl (hb hby d9_55) rfl ?_
    show Steps p.tables e below (T102.setTop (mkF m 56 #[.val (.ref a1), .val (.int (4 : Int32)), .val (.int p3)] [(.int p3), (.int (nar .byte (own_at8 p3 (2 : Int32))))])) _
    refine XS.iconst X102.here hx rfl (hb hby d9_56) ?_
    show Steps p.tables e below (T102.setTop (mkF m 57 #[.val (.ref a1), .val (.int (4 : Int32)), .val (.int p3)] [(.int (2 : Int32)), (.int p3), (.int (nar .byte (own_at8 p3 (2 : Int32))))])) _
    refine st103 _ ?_
    show Steps p.tables e below (T103.setTop (mkF m 60 #[.val (.ref a1), .val (.int (4 : Int32)), .val (.int p3)] [(.int (own_at8 p3 (2 : Int32))), (.int (nar .byte (own_at8 p3 (2 : Int32))))])) _
    refine XS.icmpYes X103.here hx rfl (pc0 := 60) (pc' := 65) rfl (hb hby d9_60) rfl (teq (own_nar8 _ _)).1 (by decide) (by decide) ?_
    show Steps p.tables e below (T103.setTop (mkF m 65 #[.val (.ref a1), .val (.int (4 : Int32)), .val (.int p3)] [])) _
    refine XS.iloadN X103.here hx rfl (hb hby d9_65) rfl ?_
    show Steps p.tables e below (T103.setTop (mkF m 66 #[.val (.ref a1), .val (.int (4 : Int32)), .val (.int p3)] [(.int (4 : Int32))])) _
    refine XS.iconst X103.here hx rfl (hb hby d9_66) ?_
    show Steps p.tables e below (T103.setTop (mkF m 67 #[.val (.ref a1), .val (.int (4 : Int32)), .val (.int p3)] [(.int (3 : Int32)), (.int (4 : Int32))])) _
    refine XS.icmpNo X103.here hx rfl (hb hby d9_67) rfl (tlt (by decide)).2.2.2 ?_
    show Steps p.tables e below (T103.setTop (mkF m 70 #[.val (.ref a1), .val (.int (4 : Int32)), .val (.int p3)] [])) _
    refine XS.aloadN X103.here hx rfl (hb hby d9_70) rfl rfl ?_
    show Steps p.tables e below (T103.setTop (mkF m 71 #[.val (.ref a1), .val (.int (4 : Int32)), .val (.int p3)] [(.ref a1)])) _
    refine XS.iconst X103.here hx rfl (hb hby d9_71) ?_
    show Steps p.tables e below (T103.setTop (mkF m 72 #[.val (.ref a1), .val (.int (4 : Int32)), .val (.int p3)] [(.int (3 : Int32)), (.ref a1)])) _
    refine X103.baloadBytes hx (j := (3 : Int32)) (v := (.int (nar .byte (own_at8 p3 (3 : Int32))))) (by rw [e103]; exact Ar.1) (State.isArrayOf_alike hZ.alike Ar.2.1) Ar.2.2 hin3 hat3 (g := (mkF m 72 #[.val (.ref a1), .val (.int (4 : Int32)), .val (.int p3)] [(.int (3 : Int32)), (.ref a1)])) rfl rfl (hb hby d9_72) _ ?_
    show Steps p.tables e below (T103.setTop (mkF m 73 #[.val (.ref a1), .val (.int (4 : Int32)), .val (.int p3)] [(.int (nar .byte (own_at8 p3 (3 : Int32))))])) _
    refine XS.iloadN X103.here hx rfl (hb hby d9_73) rfl ?_
    show Steps p.tables e below (T103.setTop (mkF m 74 #[.val (.ref a1), .val (.int (4 : Int32)), .val (.int p3)] [(.int p3), (.int (nar .byte (own_at8 p3 (3 : Int32))))])) _
    refine XS.iconst X103.here hx rfl (hb hby d9_74) ?_
    show Steps p.tables e below (T103.setTop (mkF m 75 #[.val (.ref a1), .val (.int (4 : Int32)), .val (.int p3)] [(.int (3 : Int32)), (.int p3), (.int (nar .byte (own_at8 p3 (3 : Int32))))])) _
    refine st104 _ ?_
    show Steps p.tables e below (T104.setTop (mkF m 78 #[.val (.ref a1), .val (.int (4 : Int32)), .val (.int p3)] [(.int (own_at8 p3 (3 : Int32))), (.int (nar .byte (own_at8 p3 (3 : Int32))))])) _
    refine XS.icmpYes X104.here hx rfl (pc0 := 78) (pc' := 83) rfl (hb hby d9_78) rfl (teq (own_nar8 _ _)).1 (by decide) (by decide) ?_
    show Steps p.tables e below (T104.setTop (mkF m 83 #[.val (.ref a1), .val (.int (4 : Int32)), .val (.int p3)] [])) _
    refine XS.iconst X104.here hx rfl (hb hby d9_83) ?_
    exact k_)
  obtain ⟨fs, hr, hrun, hended, hW, hsame⟩ := X104.leave (v := some (.int (1 : Int32))) (fun h => by rw [Bd.returns] at h; cases h)
  refine ⟨_, _, pre105 _ ?_, hrun, hended, _, _, rfl, ?_, ⟨_, rfl⟩, hW, hsame.mono (by decide) (by decide)⟩
  · show Steps p.tables e below (T104.setTop (mkF m 84 #[.val (.ref a1), .val (.int (4 : Int32)), .val (.int p3)] [(.int (1 : Int32))])) _
    exact retN X104 hx (t := .boolean) Bd.returns (by simp) (hb hby d9_84) hr
  · show QrmH4 Z a1 p3 kx h0 n0 _ T104.heap _
    rw [e104]
    exact ⟨rfl, N104, rfl⟩
theorem d10_46 : decode method_4_code 46 = .ok (.aload_n 0, 1) := by decide +kernel
theorem d10_47 : decode method_4_code 47 = .ok (.iconst 3, 1) := by decide +kernel
theorem d10_48 : decode method_4_code 48 = .ok (.aload_n 0, 1) := by decide +kernel
theorem d10_49 : decode method_4_code 49 = .ok (.iconst 3, 1) := by decide +kernel
theorem d10_50 : decode method_4_code 50 = .ok (.baload, 1) := by decide +kernel
theorem d10_51 : decode method_4_code 51 = .ok (.iconst 1, 1) := by decide +kernel
theorem d10_52 : decode method_4_code 52 = .ok (.ixor, 1) := by decide +kernel
theorem d10_53 : decode method_4_code 53 = .ok (.i2b, 1) := by decide +kernel
theorem d10_54 : decode method_4_code 54 = .ok (.bastore, 1) := by decide +kernel
theorem ef_rmF4 (m : MethodId) (x0 : Addr) (x1 : Int32) : entryFrame m #[(.ref x0), (.int x1)] 2 = mkF m 0 #[.val (.ref x0), .val (.int x1)] [] := by first | (simp [entryFrame, mkF, argsToLocals, Value.category]; done) | rfl
def QrmF4 (Z : State) (a1 : Addr) (kx : ClassId) (x0 : Int32) (x1 : Int32) (x2 : Int32) (x3 : Int32) (h0 : Heap) (n0 : Nat) (v : Option Value) (h : Heap) (L : List Loc) : Prop := v = none ∧ Fr n0 L ∧ Keep h0 h [a1]
set_option maxRecDepth 65536 in
set_option maxHeartbeats 40000000 in
theorem rmF4 (l : Launch) (Z : State) (a0 : Array Value) (hw : ∀ d ∈ tables_1, d.before a0 Z = true) (ws : List Jvm.Cond) (a1 : Addr) (kx : ClassId) (x0 : Int32) (x1 : Int32) (x2 : Int32) (x3 : Int32) (h0 : Heap) (n0 : Nat) (Z0 : n0 ≤ h0.size) (V : Arv Z h0 a1 kx .byte (4 : Int32) [(.int x0), (.int x1), (.int x2), (.int x3)] (.int (0 : Int32))) (g_a1 : n0 ≤ a1) :
    MetFree l (⟨"com/example/ledgerpost/ledgerpost/PayloadOfBytesPinLaw", "flip", "([BI)V"⟩ : MethodName) (head1 (Jvm.Cond.code (⟨"com/example/ledgerpost/ledgerpost/PayloadOfBytesPinLaw", "flip", "([BI)V"⟩ : MethodName) method_4_code 2 none :: ws) ({ frames := 0, cells := 0, slots := 0, locals := 0 } : Room)) (fun a U => a = #[(.ref a1), (.int (4 : Int32))] ∧ Z.Warmed39 U.vm ∧ U.heap = h0) (fun _ _ _ _ _ => True) (fun _ U o U' => ∃ v L, o = .returned v ∧ QrmF4 Z a1 kx x0 x1 x2 x3 h0 n0 v U'.heap L ∧ FrameEnd U o U' L ({ frames := 0, cells := 0, slots := 0, locals := 0 } : Room).cells ({ frames := 0, cells := 0, slots := 0, locals := 0 } : Room).slots) := by
  refine MetFree.of_bodySF (plainFor_of_name pn_0) hisR ?_
  intro p e s m args below meth c s₁ Bd hml0 hP hK
  obtain ⟨rfl, hZ, hh⟩ := hP
  have hx := Bd.exec
  have hby := Bd.bytes
  have hml : c.maxLocals = 2 := hml0
  have hown : s.vm.findClass "com/example/ledgerpost/ledgerpost/PayloadOfBytesPinLaw" = some m.cls := findClass_of_methodNamed Bd.named
  have hnm := (name_of_methodNamed Bd.named Bd.method).1
  have X0 : Stand p l e ({ frames := 0, cells := 0, slots := 0, locals := 0 } : Room) s m #[(.ref a1), (.int (4 : Int32))] below meth c s₁ [] 0 0 := Stand.of_body Bd
  have e0 : s₁.heap = h0 := by rw [← hh, Bd.state]; rfl
  have N0 := Fr.nil n0
  have pre0 : ∀ t_, Steps p.tables e below (s₁.setTop (mkF m 0 #[.val (.ref a1), .val (.int (4 : Int32))] [])) t_ → Steps p.tables e below (s₁.setTop (entryFrame m #[(.ref a1), (.int (4 : Int32))] 2)) t_ := fun t_ k_ => castTop (ef_rmF4 m a1 ((4 : Int32))) k_
  obtain ⟨cl101, Ar101, -, Sz101, -, Hs101, -⟩ := id V
  have hin101 : ¬ ((0 : Int32) < 0 ∨ cl101.slots.size ≤ ((0 : Int32)).toNatClampNeg) := inb_of Sz101 ⟨by decide, by decide⟩
  have hat101 : cl101.slots[((0 : Int32)).toNatClampNeg]? = some (.int x0) := Has.at Hs101 hin101 rfl
  obtain ⟨cl102, Ar102, qk102, Sz102, Ng102, Hs102, Gs102⟩ := V
  have hin102 : ¬ ((0 : Int32) < 0 ∨ cl102.slots.size ≤ ((0 : Int32)).toNatClampNeg) := inb_of Sz102 ⟨by decide, by decide⟩
  obtain ⟨T103, h103, X103, e103, W103, st103⟩ := stB X0 hx hZ e0 Ar102 (j := (0 : Int32)) hin102 (g := (mkF m 12 #[.val (.ref a1), .val (.int (4 : Int32))] [(.int ((x0 ^^^ (1 : Int32)).toInt8.toInt32)), (.int (0 : Int32)), (.ref a1)])) rfl rfl (hb hby d10_12)
  have K_104 := (Keep.refl h0 [a1]).wr W103 (Or.inl (List.mem_of_getElem? (i := 0) rfl))
  have V_a1_103 : Arv Z h103 a1 kx .byte (4 : Int32) [(.int (nar .byte ((x0 ^^^ (1 : Int32)).toInt8.toInt32))), (.int x1), (.int x2), (.int x3)] (.int (0 : Int32)) := Arv.set Ar102 qk102 Sz102 Ng102 Hs102 Gs102 (fits_nar_byte _) W103 0 rfl (Nat.le_of_ble_eq_true rfl)
  have N103 := Fr.snoc X103 N0 g_a1
  have Z105 : n0 ≤ h103.size := Nat.le_trans Z0 ((Keep.of_wr W103).1)
  obtain ⟨cl106, Ar106, -, Sz106, -, Hs106, -⟩ := id V_a1_103
  have hin106 : ¬ ((1 : Int32) < 0 ∨ cl106.slots.size ≤ ((1 : Int32)).toNatClampNeg) := inb_of Sz106 ⟨by decide, by decide⟩
  have hat106 : cl106.slots[((1 : Int32)).toNatClampNeg]? = some (.int x1) := Has.at Hs106 hin106 rfl
  obtain ⟨cl107, Ar107, qk107, Sz107, Ng107, Hs107, Gs107⟩ := V_a1_103
  have hin107 : ¬ ((1 : Int32) < 0 ∨ cl107.slots.size ≤ ((1 : Int32)).toNatClampNeg) := inb_of Sz107 ⟨by decide, by decide⟩
  obtain ⟨T108, h108, X108, e108, W108, st108⟩ := stB X103 hx hZ e103 Ar107 (j := (1 : Int32)) hin107 (g := (mkF m 26 #[.val (.ref a1), .val (.int (4 : Int32))] [(.int ((x1 ^^^ (1 : Int32)).toInt8.toInt32)), (.int (1 : Int32)), (.ref a1)])) rfl rfl (hb hby d10_26)
  have K_109 := K_104.wr W108 (Or.inl (List.mem_of_getElem? (i := 0) rfl))
  have V_a1_108 : Arv Z h108 a1 kx .byte (4 : Int32) [(.int (nar .byte ((x0 ^^^ (1 : Int32)).toInt8.toInt32))), (.int (nar .byte ((x1 ^^^ (1 : Int32)).toInt8.toInt32))), (.int x2), (.int x3)] (.int (0 : Int32)) := Arv.set Ar107 qk107 Sz107 Ng107 Hs107 Gs107 (fits_nar_byte _) W108 1 rfl (Nat.le_of_ble_eq_true rfl)
  have N108 := Fr.snoc X108 N103 g_a1
  have Z110 : n0 ≤ h108.size := Nat.le_trans Z105 ((Keep.of_wr W108).1)
  obtain ⟨cl111, Ar111, -, Sz111, -, Hs111, -⟩ := id V_a1_108
  have hin111 : ¬ ((2 : Int32) < 0 ∨ cl111.slots.size ≤ ((2 : Int32)).toNatClampNeg) := inb_of Sz111 ⟨by decide, by decide⟩
  have hat111 : cl111.slots[((2 : Int32)).toNatClampNeg]? = some (.int x2) := Has.at Hs111 hin111 rfl
  obtain ⟨cl112, Ar112, qk112, Sz112, Ng112, Hs112, Gs112⟩ := V_a1_108
  have hin112 : ¬ ((2 : Int32) < 0 ∨ cl112.slots.size ≤ ((2 : Int32)).toNatClampNeg) := inb_of Sz112 ⟨by decide, by decide⟩
  obtain ⟨T113, h113, X113, e113, W113, st113⟩ := stB X108 hx hZ e108 Ar112 (j := (2 : Int32)) hin112 (g := (mkF m 40 #[.val (.ref a1), .val (.int (4 : Int32))] [(.int ((x2 ^^^ (1 : Int32)).toInt8.toInt32)), (.int (2 : Int32)), (.ref a1)])) rfl rfl (hb hby d10_40)
  have K_114 := K_109.wr W113 (Or.inl (List.mem_of_getElem? (i := 0) rfl))
  have V_a1_113 : Arv Z h113 a1 kx .byte (4 : Int32) [(.int (nar .byte ((x0 ^^^ (1 : Int32)).toInt8.toInt32))), (.int (nar .byte ((x1 ^^^ (1 : Int32)).toInt8.toInt32))), (.int (nar .byte ((x2 ^^^ (1 : Int32)).toInt8.toInt32))), (.int x3)] (.int (0 : Int32)) := Arv.set Ar112 qk112 Sz112 Ng112 Hs112 Gs112 (fits_nar_byte _) W113 2 rfl (Nat.le_of_ble_eq_true rfl)
  have N113 := Fr.snoc X113 N108 g_a1
  have Z115 : n0 ≤ h113.size := Nat.le_trans Z110 ((Keep.of_wr W113).1)
  obtain ⟨cl116, Ar116, -, Sz116, -, Hs116, -⟩ := id V_a1_113
  have hin116 : ¬ ((3 : Int32) < 0 ∨ cl116.slots.size ≤ ((3 : Int32)).toNatClampNeg) := inb_of Sz116 ⟨by decide, by decide⟩
  have hat116 : cl116.slots[((3 : Int32)).toNatClampNeg]? = some (.int x3) := Has.at Hs116 hin116 rfl
  obtain ⟨cl117, Ar117, qk117, Sz117, Ng117, Hs117, Gs117⟩ := V_a1_113
  have hin117 : ¬ ((3 : Int32) < 0 ∨ cl117.slots.size ≤ ((3 : Int32)).toNatClampNeg) := inb_of Sz117 ⟨by decide, by decide⟩
  obtain ⟨T118, h118, X118, e118, W118, st118⟩ := stB X113 hx hZ e113 Ar117 (j := (3 : Int32)) hin117 (g := (mkF m 54 #[.val (.ref a1), .val (.int (4 : Int32))] [(.int ((x3 ^^^ (1 : Int32)).toInt8.toInt32)), (.int (3 : Int32)), (.ref a1)])) rfl rfl (hb hby d10_54)
  have K_119 := K_114.wr W118 (Or.inl (List.mem_of_getElem? (i := 0) rfl))
  have V_a1_118 : Arv Z h118 a1 kx .byte (4 : Int32) [(.int (nar .byte ((x0 ^^^ (1 : Int32)).toInt8.toInt32))), (.int (nar .byte ((x1 ^^^ (1 : Int32)).toInt8.toInt32))), (.int (nar .byte ((x2 ^^^ (1 : Int32)).toInt8.toInt32))), (.int (nar .byte ((x3 ^^^ (1 : Int32)).toInt8.toInt32)))] (.int (0 : Int32)) := Arv.set Ar117 qk117 Sz117 Ng117 Hs117 Gs117 (fits_nar_byte _) W118 3 rfl (Nat.le_of_ble_eq_true rfl)
  have N118 := Fr.snoc X118 N113 g_a1
  have Z120 : n0 ≤ h118.size := Nat.le_trans Z115 ((Keep.of_wr W118).1)
  have pre121 : ∀ t_, Steps p.tables e below (T118.setTop (mkF m 55 #[.val (.ref a1), .val (.int (4 : Int32))] [])) t_ → Steps p.tables e below (s₁.setTop (entryFrame m #[(.ref a1), (.int (4 : Int32))] 2)) t_ := fun t_ k_ => pre0 _ (by
    show Steps p.tables e below (s₁.setTop (mkF m 0 #[.val (.ref a1), .val (.int (4 : Int32))] [])) _
    refine XS.iloadN X0.here hx rfl (hb hby d10_0) rfl ?_
    show Steps p.tables e below (s₁.setTop (mkF m 1 #[.val (.ref a1), .val (.int (4 : Int32))] [(.int (4 : Int32))])) _
    refine XS.ifNo X0.here hx rfl (hb hby d10_1) rfl ((if0 _ _).trans (tlt (by decide)).2.2.2) ?_
    show Steps p.tables e below (s₁.setTop (mkF m 4 #[.val (.ref a1), .val (.int (4 : Int32))] [])) _
    refine XS.aloadN X0.here hx rfl (hb hby d10_4) rfl rfl ?_
    show Steps p.tables e below (s₁.setTop (mkF m 5 #[.val (.ref a1), .val (.int (4 : Int32))] [(.ref a1)])) _
    refine XS.iconst X0.here hx rfl (hb hby d10_5) ?_
    show Steps p.tables e below (s₁.setTop (mkF m 6 #[.val (.ref a1), .val (.int (4 : Int32))] [(.int (0 : Int32)), (.ref a1)])) _
    refine XS.aloadN X0.here hx rfl (hb hby d10_6) rfl rfl ?_
    show Steps p.tables e below (s₁.setTop (mkF m 7 #[.val (.ref a1), .val (.int (4 : Int32))] [(.ref a1), (.int (0 : Int32)), (.ref a1)])) _
    refine XS.iconst X0.here hx rfl (hb hby d10_7) ?_
    show Steps p.tables e below (s₁.setTop (mkF m 8 #[.val (.ref a1), .val (.int (4 : Int32))] [(.int (0 : Int32)), (.ref a1), (.int (0 : Int32)), (.ref a1)])) _
    refine X0.baloadBytes hx (j := (0 : Int32)) (v := (.int x0)) (by rw [e0]; exact Ar101.1) (State.isArrayOf_alike hZ.alike Ar101.2.1) Ar101.2.2 hin101 hat101 (g := (mkF m 8 #[.val (.ref a1), .val (.int (4 : Int32))] [(.int (0 : Int32)), (.ref a1), (.int (0 : Int32)), (.ref a1)])) rfl rfl (hb hby d10_8) _ ?_
    show Steps p.tables e below (s₁.setTop (mkF m 9 #[.val (.ref a1), .val (.int (4 : Int32))] [(.int x0), (.int (0 : Int32)), (.ref a1)])) _
    refine XS.iconst X0.here hx rfl (hb hby d10_9) ?_
    show Steps p.tables e below (s₁.setTop (mkF m 10 #[.val (.ref a1), .val (.int (4 : Int32))] [(.int (1 : Int32)), (.int x0), (.int (0 : Int32)), (.ref a1)])) _
    refine XS.ixor X0.here hx rfl (hb hby d10_10) rfl ?_
    show Steps p.tables e below (s₁.setTop (mkF m 11 #[.val (.ref a1), .val (.int (4 : Int32))] [(.int (x0 ^^^ (1 : Int32))), (.int (0 : Int32)), (.ref a1)])) _
    refine XS.i2b X0.here hx rfl (hb hby d10_11) rfl ?_
    show Steps p.tables e below (s₁.setTop (mkF m 12 #[.val (.ref a1), .val (.int (4 : Int32))] [(.int ((x0 ^^^ (1 : Int32)).toInt8.toInt32)), (.int (0 : Int32)), (.ref a1)])) _
    refine st103 _ ?_
    show Steps p.tables e below (T103.setTop (mkF m 13 #[.val (.ref a1), .val (.int (4 : Int32))] [])) _
    refine XS.iloadN X103.here hx rfl (hb hby d10_13) rfl ?_
    show Steps p.tables e below (T103.setTop (mkF m 14 #[.val (.ref a1), .val (.int (4 : Int32))] [(.int (4 : Int32))])) _
    refine XS.iconst X103.here hx rfl (hb hby d10_14) ?_
    show Steps p.tables e below (T103.setTop (mkF m 15 #[.val (.ref a1), .val (.int (4 : Int32))] [(.int (1 : Int32)), (.int (4 : Int32))])) _
    refine XS.icmpNo X103.here hx rfl (hb hby d10_15) rfl (tlt (by decide)).2.2.2 ?_
    show Steps p.tables e below (T103.setTop (mkF m 18 #[.val (.ref a1), .val (.int (4 : Int32))] [])) _
    refine XS.aloadN X103.here hx rfl (hb hby d10_18) rfl rfl ?_
    show Steps p.tables e below (T103.setTop (mkF m 19 #[.val (.ref a1), .val (.int (4 : Int32))] [(.ref a1)])) _
    refine XS.iconst X103.here hx rfl (hb hby d10_19) ?_
    show Steps p.tables e below (T103.setTop (mkF m 20 #[.val (.ref a1), .val (.int (4 : Int32))] [(.int (1 : Int32)), (.ref a1)])) _
    refine XS.aloadN X103.here hx rfl (hb hby d10_20) rfl rfl ?_
    show Steps p.tables e below (T103.setTop (mkF m 21 #[.val (.ref a1), .val (.int (4 : Int32))] [(.ref a1), (.int (1 : Int32)), (.ref a1)])) _
    refine XS.iconst X103.here hx rfl (hb hby d10_21) ?_
    show Steps p.tables e below (T103.setTop (mkF m 22 #[.val (.ref a1), .val (.int (4 : Int32))] [(.int (1 : Int32)), (.ref a1), (.int (1 : Int32)), (.ref a1)])) _
    refine X103.baloadBytes hx (j := (1 : Int32)) (v := (.int x1)) (by rw [e103]; exact Ar106.1) (State.isArrayOf_alike hZ.alike Ar106.2.1) Ar106.2.2 hin106 hat106 (g := (mkF m 22 #[.val (.ref a1), .val (.int (4 : Int32))] [(.int (1 : Int32)), (.ref a1), (.int (1 : Int32)), (.ref a1)])) rfl rfl (hb hby d10_22) _ ?_
    show Steps p.tables e below (T103.setTop (mkF m 23 #[.val (.ref a1), .val (.int (4 : Int32))] [(.int x1), (.int (1 : Int32)), (.ref a1)])) _
    refine XS.iconst X103.here hx rfl (hb hby d10_23) ?_
    show Steps p.tables e below (T103.setTop (mkF m 24 #[.val (.ref a1), .val (.int (4 : Int32))] [(.int (1 : Int32)), (.int x1), (.int (1 : Int32)), (.ref a1)])) _
    refine XS.ixor X103.here hx rfl (hb hby d10_24) rfl ?_
    show Steps p.tables e below (T103.setTop (mkF m 25 #[.val (.ref a1), .val (.int (4 : Int32))] [(.int (x1 ^^^ (1 : Int32))), (.int (1 : Int32)), (.ref a1)])) _
    refine XS.i2b X103.here hx rfl (hb hby d10_25) rfl ?_
    show Steps p.tables e below (T103.setTop (mkF m 26 #[.val (.ref a1), .val (.int (4 : Int32))] [(.int ((x1 ^^^ (1 : Int32)).toInt8.toInt32)), (.int (1 : Int32)), (.ref a1)])) _
    refine st108 _ ?_
    show Steps p.tables e below (T108.setTop (mkF m 27 #[.val (.ref a1), .val (.int (4 : Int32))] [])) _
    refine XS.iloadN X108.here hx rfl (hb hby d10_27) rfl ?_
    show Steps p.tables e below (T108.setTop (mkF m 28 #[.val (.ref a1), .val (.int (4 : Int32))] [(.int (4 : Int32))])) _
    refine XS.iconst X108.here hx rfl (hb hby d10_28) ?_
    show Steps p.tables e below (T108.setTop (mkF m 29 #[.val (.ref a1), .val (.int (4 : Int32))] [(.int (2 : Int32)), (.int (4 : Int32))])) _
    refine XS.icmpNo X108.here hx rfl (hb hby d10_29) rfl (tlt (by decide)).2.2.2 ?_
    show Steps p.tables e below (T108.setTop (mkF m 32 #[.val (.ref a1), .val (.int (4 : Int32))] [])) _
    refine XS.aloadN X108.here hx rfl (hb hby d10_32) rfl rfl ?_
    show Steps p.tables e below (T108.setTop (mkF m 33 #[.val (.ref a1), .val (.int (4 : Int32))] [(.ref a1)])) _
    refine XS.iconst X108.here hx rfl (hb hby d10_33) ?_
    show Steps p.tables e below (T108.setTop (mkF m 34 #[.val (.ref a1), .val (.int (4 : Int32))] [(.int (2 : Int32)), (.ref a1)])) _
    refine XS.aloadN X108.here hx rfl (hb hby d10_34) rfl rfl ?_
    show Steps p.tables e below (T108.setTop (mkF m 35 #[.val (.ref a1), .val (.int (4 : Int32))] [(.ref a1), (.int (2 : Int32)), (.ref a1)])) _
    refine XS.iconst X108.here hx rfl (hb hby d10_35) ?_
    show Steps p.tables e below (T108.setTop (mkF m 36 #[.val (.ref a1), .val (.int (4 : Int32))] [(.int (2 : Int32)), (.ref a1), (.int (2 : Int32)), (.ref a1)])) _
    refine X108.baloadBytes hx (j := (2 : Int32)) (v := (.int x2)) (by rw [e108]; exact Ar111.1) (State.isArrayOf_alike hZ.alike Ar111.2.1) Ar111.2.2 hin111 hat111 (g := (mkF m 36 #[.val (.ref a1), .val (.int (4 : Int32))] [(.int (2 : Int32)), (.ref a1), (.int (2 : Int32)), (.ref a1)])) rfl rfl (hb hby d10_36) _ ?_
    show Steps p.tables e below (T108.setTop (mkF m 37 #[.val (.ref a1), .val (.int (4 : Int32))] [(.int x2), (.int (2 : Int32)), (.ref a1)])) _
    refine XS.iconst X108.here hx rfl (hb hby d10_37) ?_
    show Steps p.tables e below (T108.setTop (mkF m 38 #[.val (.ref a1), .val (.int (4 : Int32))] [(.int (1 : Int32)), (.int x2), (.int (2 : Int32)), (.ref a1)])) _
    refine XS.ixor X108.here hx rfl (hb hby d10_38) rfl ?_
    show Steps p.tables e below (T108.setTop (mkF m 39 #[.val (.ref a1), .val (.int (4 : Int32))] [(.int (x2 ^^^ (1 : Int32))), (.int (2 : Int32)), (.ref a1)])) _
    refine XS.i2b X108.here hx rfl (hb hby d10_39) rfl ?_
    show Steps p.tables e below (T108.setTop (mkF m 40 #[.val (.ref a1), .val (.int (4 : Int32))] [(.int ((x2 ^^^ (1 : Int32)).toInt8.toInt32)), (.int (2 : Int32)), (.ref a1)])) _
    refine st113 _ ?_
    show Steps p.tables e below (T113.setTop (mkF m 41 #[.val (.ref a1), .val (.int (4 : Int32))] [])) _
    refine XS.iloadN X113.here hx rfl (hb hby d10_41) rfl ?_
    show Steps p.tables e below (T113.setTop (mkF m 42 #[.val (.ref a1), .val (.int (4 : Int32))] [(.int (4 : Int32))])) _
    refine XS.iconst X113.here hx rfl (hb hby d10_42) ?_
    show Steps p.tables e below (T113.setTop (mkF m 43 #[.val (.ref a1), .val (.int (4 : Int32))] [(.int (3 : Int32)), (.int (4 : Int32))])) _
    refine XS.icmpNo X113.here hx rfl (hb hby d10_43) rfl (tlt (by decide)).2.2.2 ?_
    show Steps p.tables e below (T113.setTop (mkF m 46 #[.val (.ref a1), .val (.int (4 : Int32))] [])) _
    refine XS.aloadN X113.here hx rfl (hb hby d10_46) rfl rfl ?_
    show Steps p.tables e below (T113.setTop (mkF m 47 #[.val (.ref a1), .val (.int (4 : Int32))] [(.ref a1)])) _
    refine XS.iconst X113.here hx rfl (hb hby d10_47) ?_
    show Steps p.tables e below (T113.setTop (mkF m 48 #[.val (.ref a1), .val (.int (4 : Int32))] [(.int (3 : Int32)), (.ref a1)])) _
    refine XS.aloadN X113.here hx rfl (hb hby d10_48) rfl rfl ?_
    show Steps p.tables e below (T113.setTop (mkF m 49 #[.val (.ref a1), .val (.int (4 : Int32))] [(.ref a1), (.int (3 : Int32)), (.ref a1)])) _
    refine XS.iconst X113.here hx rfl (hb hby d10_49) ?_
    show Steps p.tables e below (T113.setTop (mkF m 50 #[.val (.ref a1), .val (.int (4 : Int32))] [(.int (3 : Int32)), (.ref a1), (.int (3 : Int32)), (.ref a1)])) _
    refine X113.baloadBytes hx (j := (3 : Int32)) (v := (.int x3)) (by rw [e113]; exact Ar116.1) (State.isArrayOf_alike hZ.alike Ar116.2.1) Ar116.2.2 hin116 hat116 (g := (mkF m 50 #[.val (.ref a1), .val (.int (4 : Int32))] [(.int (3 : Int32)), (.ref a1), (.int (3 : Int32)), (.ref a1)])) rfl rfl (hb hby d10_50) _ ?_
    show Steps p.tables e below (T113.setTop (mkF m 51 #[.val (.ref a1), .val (.int (4 : Int32))] [(.int x3), (.int (3 : Int32)), (.ref a1)])) _
    refine XS.iconst X113.here hx rfl (hb hby d10_51) ?_
    show Steps p.tables e below (T113.setTop (mkF m 52 #[.val (.ref a1), .val (.int (4 : Int32))] [(.int (1 : Int32)), (.int x3), (.int (3 : Int32)), (.ref a1)])) _
    refine XS.ixor X113.here hx rfl (hb hby d10_52) rfl ?_
    show Steps p.tables e below (T113.setTop (mkF m 53 #[.val (.ref a1), .val (.int (4 : Int32))] [(.int (x3 ^^^ (1 : Int32))), (.int (3 : Int32)), (.ref a1)])) _
    refine XS.i2b X113.here hx rfl (hb hby d10_53) rfl ?_
    show Steps p.tables e below (T113.setTop (mkF m 54 #[.val (.ref a1), .val (.int (4 : Int32))] [(.int ((x3 ^^^ (1 : Int32)).toInt8.toInt32)), (.int (3 : Int32)), (.ref a1)])) _
    refine st118 _ ?_
    exact k_)
  obtain ⟨fs, hr, hrun, hended, hW, hsame⟩ := X118.leave (v := none) (fun _ => rfl)
  refine ⟨_, _, pre121 _ ?_, hrun, hended, _, _, rfl, ?_, ⟨_, rfl⟩, hW, hsame.mono (by decide) (by decide)⟩
  · show Steps p.tables e below (T118.setTop (mkF m 55 #[.val (.ref a1), .val (.int (4 : Int32))] [])) _
    exact X118.returnOut hx Bd.returns (hb hby d10_55) hr
  · show QrmF4 Z a1 kx x0 x1 x2 x3 h0 n0 _ T118.heap _
    rw [e118]
    exact ⟨rfl, N118, K_119⟩
theorem pd_3 : parseMethodDescriptor "([B)Lcom/example/ledgerpost/ledgerpost/Payload;" = some ⟨[(.array .byte)], some (.object "com/example/ledgerpost/ledgerpost/Payload")⟩ := by decide +kernel
theorem pd_4 : parseMethodDescriptor "()Z" = some ⟨[], some .boolean⟩ := by decide +kernel
theorem pd_5 : parseMethodDescriptor "()Ljava/lang/String;" = some ⟨[], some (.object "java/lang/String")⟩ := by decide +kernel
theorem pd_6 : parseMethodDescriptor "()J" = some ⟨[], some .long⟩ := by decide +kernel
theorem pd_7 : parseMethodDescriptor "()[B" = some ⟨[], some (.array .byte)⟩ := by decide +kernel
theorem pd_8 : parseMethodDescriptor "([BII)Z" = some ⟨[(.array .byte), .int, .int], some .boolean⟩ := by decide +kernel
theorem pd_9 : parseMethodDescriptor "([BI)V" = some ⟨[(.array .byte), .int], none⟩ := by decide +kernel
theorem ef_rm0 (m : MethodId) (x0 : Int32) (x1 : Int32) : entryFrame m #[(.int x0), (.int x1)] maxLocals = mkF m 0 #[.val (.int x0), .val (.int x1), .unset, .unset, .unset, .unset, .unset] [] := by first | (simp [entryFrame, mkF, argsToLocals, Value.category, maxLocals]; done) | rfl
def Qrm0 (Z : State) (p1 : Int32) (p2 : Int32) (h0 : Heap) (n0 : Nat) (v : Option Value) (h : Heap) (L : List Loc) : Prop := v = some (.int 1) ∧ Fr n0 L
set_option maxRecDepth 65536 in
set_option maxHeartbeats 40000000 in
theorem rm0 (l : Launch) (Z : State) (a0 : Array Value) (hw : ∀ d ∈ tables_1, d.before a0 Z = true) (ws : List Jvm.Cond) (p1 : Int32) (p2 : Int32) (h0 : Heap) (n0 : Nat) (Z0 : n0 ≤ h0.size) :
    MetFree l x (head1 (Jvm.Cond.code x code maxLocals ret :: ws) room_1) (fun a U => a = #[(.int p1), (.int p2)] ∧ Z.Warmed39 U.vm ∧ U.heap = h0) (fun _ _ _ _ _ => True) (fun _ U o U' => ∃ v L, o = .returned v ∧ Qrm0 Z p1 p2 h0 n0 v U'.heap L ∧ ReturnedEndW U o U' L room_1.cells room_1.slots) := by
  refine MetFree.of_bodySF (plainFor_of_name pn_0) hisR ?_
  intro p e s m args below meth c s₁ Bd hml0 hP hK
  obtain ⟨rfl, hZ, hh⟩ := hP
  have hx := Bd.exec
  have hby := Bd.bytes
  have hml : c.maxLocals = 7 := hml0
  have hown : s.vm.findClass "com/example/ledgerpost/ledgerpost/PayloadOfBytesPinLaw" = some m.cls := findClass_of_methodNamed Bd.named
  have hnm := (name_of_methodNamed Bd.named Bd.method).1
  have X0 : Stand p l e room_1 s m #[(.int p1), (.int p2)] below meth c s₁ [] 0 0 := Stand.of_body Bd
  have e0 : s₁.heap = h0 := by rw [← hh, Bd.state]; rfl
  have N0 := Fr.nil n0
  have pre0 : ∀ t_, Steps p.tables e below (s₁.setTop (mkF m 0 #[.val (.int p1), .val (.int p2), .unset, .unset, .unset, .unset, .unset] [])) t_ → Steps p.tables e below (s₁.setTop (entryFrame m #[(.int p1), (.int p2)] maxLocals)) t_ := fun t_ k_ => castTop (ef_rm0 m p1 p2) k_
  obtain ⟨n, hv_n, pre101⟩ : ∃ z_ : Int32, z_ = ((p1 &&& (2147483647 : Int32)) % (5 : Int32)) ∧ ∀ t_, Steps p.tables e below (s₁.setTop (mkF m 7 #[.val (.int p1), .val (.int p2), .val (.int z_), .unset, .unset, .unset, .unset] [])) t_ → Steps p.tables e below (s₁.setTop (entryFrame m #[(.int p1), (.int p2)] maxLocals)) t_ := ⟨_, rfl, fun t_ k_ => pre0 _ (by
    show Steps p.tables e below (s₁.setTop (mkF m 0 #[.val (.int p1), .val (.int p2), .unset, .unset, .unset, .unset, .unset] [])) _
    refine XS.iloadN X0.here hx rfl (hb hby at_0) rfl ?_
    show Steps p.tables e below (s₁.setTop (mkF m 1 #[.val (.int p1), .val (.int p2), .unset, .unset, .unset, .unset, .unset] [(.int p1)])) _
    refine X0.ldcInt hx hown (mvT hZ (hw _ (List.mem_of_getElem? (i := 0) rfl))) (g := (mkF m 1 #[.val (.int p1), .val (.int p2), .unset, .unset, .unset, .unset, .unset] [(.int p1)])) rfl (hb hby at_1) _ ?_
    show Steps p.tables e below (s₁.setTop (mkF m 3 #[.val (.int p1), .val (.int p2), .unset, .unset, .unset, .unset, .unset] [(.int (2147483647 : Int32)), (.int p1)])) _
    refine XS.iand X0.here hx rfl (hb hby at_3) rfl ?_
    show Steps p.tables e below (s₁.setTop (mkF m 4 #[.val (.int p1), .val (.int p2), .unset, .unset, .unset, .unset, .unset] [(.int (p1 &&& (2147483647 : Int32)))])) _
    refine XS.iconst X0.here hx rfl (hb hby at_4) ?_
    show Steps p.tables e below (s₁.setTop (mkF m 5 #[.val (.int p1), .val (.int p2), .unset, .unset, .unset, .unset, .unset] [(.int (5 : Int32)), (.int (p1 &&& (2147483647 : Int32)))])) _
    refine iremM X0 hx rfl (hb hby at_5) rfl (by decide) ?_
    show Steps p.tables e below (s₁.setTop (mkF m 6 #[.val (.int p1), .val (.int p2), .unset, .unset, .unset, .unset, .unset] [(.int ((p1 &&& (2147483647 : Int32)) % (5 : Int32)))])) _
    refine XS.istoreN X0.here hx rfl (hb hby at_6) rfl (l' := #[.val (.int p1), .val (.int p2), .val (.int ((p1 &&& (2147483647 : Int32)) % (5 : Int32))), .unset, .unset, .unset, .unset]) rfl ?_
    exact k_)⟩
  have hn : n = 0 ∨ n = 1 ∨ n = 2 ∨ n = 3 ∨ n = 4 := by rw [hv_n]; exact own_k5 p1
  rcases hn with q | q | q | q | q
  · skip
    subst q
    obtain ⟨T102, h102, k_ba, X102, e102, Ext_ba, A_ba, E_ba, st102⟩ := newPE X0 hx hZ (hw _ (List.mem_of_getElem? (i := 1) rfl)) e0 (g := (mkF m 8 #[.val (.int p1), .val (.int p2), .val (.int (0 : Int32)), .unset, .unset, .unset, .unset] [(.int (0 : Int32))])) rfl (hb hby at_8) rfl (by decide) (cap := 0) (by decide) (by decide) (by decide) (by decide) (ad := "[B") (by decide)
    obtain ⟨ba, eq_ba⟩ : ∃ z, z = h0.size := ⟨_, rfl⟩
    rw [← eq_ba] at A_ba E_ba st102
    have g_ba : n0 ≤ ba := Nat.le_trans Z0 (Nat.le_of_eq eq_ba.symm)
    have Z103 : n0 ≤ h102.size := Nat.le_trans Z0 (Ext_ba.1)
    have V_ba : Arv Z h102 ba k_ba .byte (0 : Int32) [] (.int (0 : Int32)) := Arv.new A_ba (by decide)
    have lt_ba := V_ba.lt
    obtain ⟨_, _, ⟨T104, L104, k104, n104⟩, -, X104, hS104, hle104, ⟨Lc104, hQ104, l104, y104, z104⟩, st104⟩ := callSS (s := s) X102 hx (y := (⟨"com/example/ledgerpost/ledgerpost/Payload", "ofBytes", "([B)Lcom/example/ledgerpost/ledgerpost/Payload;"⟩ : MethodName)) hown (mvT hZ (hw _ (List.mem_of_getElem? (i := 2) rfl))) (mvT hZ (hw _ (List.mem_of_getElem? (i := 3) rfl))) (mvT hZ (hw _ (List.mem_of_getElem? (i := 4) rfl))) (mvT hZ (hw _ (List.mem_of_getElem? (i := 5) rfl))) (by decide) (backOfS (W := 0) (rmO l Z a0 hw [] ba k_ba (0 : Int32) [] h102 n0 Z103 V_ba E_ba (by decide)) hZ (hw _ (List.mem_of_getElem? (i := 5) rfl)) (hw _ (List.mem_of_getElem? (i := 4) rfl)) (by decide) (by decide)) (g := (mkF m 63 #[.val (.int p1), .val (.int p2), .val (.int (0 : Int32)), .val (.ref ba), .unset, .unset, .unset] [(.ref ba)])) rfl (by rw [hml]; rfl) (argsL := [(.ref ba)]) (rest := []) (lenOf pd_3 rfl) rfl (by show 2 * 0 + _ ≤ _; exact Nat.le_of_eq rfl) (hb hby at_63) (fun _ _ => ⟨rfl, e102, (by decide : 1 + 4 ≤ _), (by decide : 0 + 30 ≤ _)⟩)
    dsimp only [Pt.U, Pt.locs, Pt.cells, Pt.slots] at X104 l104 y104 z104 st104 hQ104 hS104 hle104
    subst l104 y104 z104
    have hle104' : h102.size ≤ T104.heap.size := by have q := hle104; rw [e102] at q; exact q
    obtain ⟨X104', hS104', hZ104, hown104⟩ := rebS (s := s) (vm0 := s.vm) ((State.WarmedH.refl s).since 0) (Nat.zero_le _) X104 hS104 hle104' hZ hown
    obtain ⟨bp, cc, rfl, N104q, K104, E104, F0104, F1104, V104, Ec104, lb104, lc104⟩ := hQ104
    have N104 := Fr.app N0 N104q
    have V_ba_105 := V_ba.keep K104 nin0
    have E_ba_106 := E_ba.keep K104
    have Z107 : n0 ≤ T104.heap.size := Nat.le_trans Z103 (K104.1)
    have ne_ba_bp : ba ≠ bp := Nat.ne_of_lt (Nat.lt_of_lt_of_le lt_ba lb104)
    have ne_ba_cc : ba ≠ cc := Nat.ne_of_lt (Nat.lt_of_lt_of_le lt_ba lc104)
    obtain ⟨cq108, kq108, q108a, q108b, q108c⟩ := isOf hZ104 rfl E104
    obtain ⟨_, _, ⟨T108, L108, k108, n108⟩, -, X108, ⟨Lc108, hQ108, l108, y108, z108⟩, st108⟩ := X104'.virtualBack hx (y := (⟨"com/example/ledgerpost/ledgerpost/Payload", "isText", "()Z"⟩ : MethodName)) (z := (⟨"com/example/ledgerpost/ledgerpost/Payload", "isText", "()Z"⟩ : MethodName)) hown104 (mvT hZ104 (hw _ (List.mem_of_getElem? (i := 38) rfl))) (mvT hZ104 (hw _ (List.mem_of_getElem? (i := 39) rfl))) (notFace_of_selects (args := #[]) (mvT hZ104 (hw _ (List.mem_of_getElem? (i := 41) rfl)))) (mvT hZ104 (hw _ (List.mem_of_getElem? (i := 41) rfl))) (mvT hZ104 (hw _ (List.mem_of_getElem? (i := 40) rfl))) (by decide) (backOf (W := 0) (rmI l Z a0 hw [] bp T104.heap n0 Z107 F0104) hZ104 (hw _ (List.mem_of_getElem? (i := 42) rfl)) (hw _ (List.mem_of_getElem? (i := 4) rfl)) (by decide) (by decide)) q108a q108c (g := (mkF m 70 #[.val (.int p1), .val (.int p2), .val (.int (0 : Int32)), .val (.ref ba), .val (.ref bp), .unset, .unset] [(.ref bp)])) rfl (by rw [hml]; rfl) (Steps.refl _) (argsL := []) (rest := []) (lenOf pd_4 rfl) rfl (by show 2 * 0 + _ ≤ _; exact Nat.le_of_eq rfl) (hb hby at_70) (fun _ _ => ⟨rfl, rfl, (by decide : 5 + 0 ≤ _), (by decide : 30 + 0 ≤ _)⟩)
    dsimp only [Pt.U, Pt.locs, Pt.cells, Pt.slots] at X108 l108 y108 z108 st108 hQ108
    subst l108 y108 z108
    obtain ⟨rfl, N108q, e108⟩ := hQ108
    have N108 := Fr.app N104 N108q
    obtain ⟨cq109, kq109, q109a, q109b, q109c⟩ := isOf hZ104 e108 E104
    obtain ⟨_, _, ⟨T109, L109, k109, n109⟩, -, X109, ⟨Lc109, hQ109, l109, y109, z109⟩, st109⟩ := X108.virtualBack hx (y := (⟨"com/example/ledgerpost/ledgerpost/Payload", "text", "()Ljava/lang/String;"⟩ : MethodName)) (z := (⟨"com/example/ledgerpost/ledgerpost/Payload", "text", "()Ljava/lang/String;"⟩ : MethodName)) hown104 (mvT hZ104 (hw _ (List.mem_of_getElem? (i := 43) rfl))) (mvT hZ104 (hw _ (List.mem_of_getElem? (i := 44) rfl))) (notFace_of_selects (args := #[]) (mvT hZ104 (hw _ (List.mem_of_getElem? (i := 46) rfl)))) (mvT hZ104 (hw _ (List.mem_of_getElem? (i := 46) rfl))) (mvT hZ104 (hw _ (List.mem_of_getElem? (i := 45) rfl))) (by decide) (backOf (W := 0) (rmT l Z a0 hw [] bp T104.heap n0 Z107 F0104) hZ104 (hw _ (List.mem_of_getElem? (i := 47) rfl)) (hw _ (List.mem_of_getElem? (i := 4) rfl)) (by decide) (by decide)) q109a q109c (g := (mkF m 80 #[.val (.int p1), .val (.int p2), .val (.int (0 : Int32)), .val (.ref ba), .val (.ref bp), .unset, .unset] [(.ref bp)])) rfl (by rw [hml]; rfl) (Steps.refl _) (argsL := []) (rest := []) (lenOf pd_5 rfl) rfl (by show 2 * 0 + _ ≤ _; exact Nat.le_of_eq rfl) (hb hby at_80) (fun _ _ => ⟨rfl, e108, (by decide : 5 + 0 ≤ _), (by decide : 30 + 0 ≤ _)⟩)
    dsimp only [Pt.U, Pt.locs, Pt.cells, Pt.slots] at X109 l109 y109 z109 st109 hQ109
    subst l109 y109 z109
    obtain ⟨rfl, N109q, e109⟩ := hQ109
    have N109 := Fr.app N108 N109q
    obtain ⟨cq110, kq110, q110a, q110b, q110c⟩ := isOf hZ104 e109 E104
    obtain ⟨_, _, ⟨T110, L110, k110, n110⟩, -, X110, ⟨Lc110, hQ110, l110, y110, z110⟩, st110⟩ := X109.virtualBack hx (y := (⟨"com/example/ledgerpost/ledgerpost/Payload", "length", "()J"⟩ : MethodName)) (z := (⟨"com/example/ledgerpost/ledgerpost/Payload", "length", "()J"⟩ : MethodName)) hown104 (mvT hZ104 (hw _ (List.mem_of_getElem? (i := 48) rfl))) (mvT hZ104 (hw _ (List.mem_of_getElem? (i := 49) rfl))) (notFace_of_selects (args := #[]) (mvT hZ104 (hw _ (List.mem_of_getElem? (i := 51) rfl)))) (mvT hZ104 (hw _ (List.mem_of_getElem? (i := 51) rfl))) (mvT hZ104 (hw _ (List.mem_of_getElem? (i := 50) rfl))) (by decide) (backOf (W := 0) (rmL l Z a0 hw [] bp cc k_ba (0 : Int32) [] T104.heap n0 Z107 F0104 F1104 V104) hZ104 (hw _ (List.mem_of_getElem? (i := 52) rfl)) (hw _ (List.mem_of_getElem? (i := 4) rfl)) (by decide) (by decide)) q110a q110c (g := (mkF m 90 #[.val (.int p1), .val (.int p2), .val (.int (0 : Int32)), .val (.ref ba), .val (.ref bp), .unset, .unset] [(.ref bp)])) rfl (by rw [hml]; rfl) (Steps.refl _) (argsL := []) (rest := []) (lenOf pd_6 rfl) rfl (by show 2 * 0 + _ ≤ _; exact Nat.le_of_eq rfl) (hb hby at_90) (fun _ _ => ⟨rfl, e109, (by decide : 5 + 0 ≤ _), (by decide : 30 + 0 ≤ _)⟩)
    dsimp only [Pt.U, Pt.locs, Pt.cells, Pt.slots] at X110 l110 y110 z110 st110 hQ110
    subst l110 y110 z110
    obtain ⟨rfl, N110q, e110⟩ := hQ110
    have N110 := Fr.app N109 N110q
    have lt_ba_b1 := E_ba_106.lt
    have lt_bp_b1 := E104.lt
    have lt_cc_b1 := Ec104.lt
    obtain ⟨cq111, kq111, q111a, q111b, q111c⟩ := isOf hZ104 e110 E104
    obtain ⟨_, _, ⟨T111, L111, k111, n111⟩, -, X111, ⟨Lc111, hQ111, l111, y111, z111⟩, st111⟩ := X110.virtualBack hx (y := (⟨"com/example/ledgerpost/ledgerpost/Payload", "bytes", "()[B"⟩ : MethodName)) (z := (⟨"com/example/ledgerpost/ledgerpost/Payload", "bytes", "()[B"⟩ : MethodName)) hown104 (mvT hZ104 (hw _ (List.mem_of_getElem? (i := 53) rfl))) (mvT hZ104 (hw _ (List.mem_of_getElem? (i := 54) rfl))) (notFace_of_selects (args := #[]) (mvT hZ104 (hw _ (List.mem_of_getElem? (i := 56) rfl)))) (mvT hZ104 (hw _ (List.mem_of_getElem? (i := 56) rfl))) (mvT hZ104 (hw _ (List.mem_of_getElem? (i := 55) rfl))) (by decide) (backOf (W := 0) (rmB l Z a0 hw [] bp cc k_ba (0 : Int32) [] T104.heap n0 Z107 F0104 F1104 V104 Ec104 (by decide)) hZ104 (hw _ (List.mem_of_getElem? (i := 57) rfl)) (hw _ (List.mem_of_getElem? (i := 4) rfl)) (by decide) (by decide)) q111a q111c (g := (mkF m 103 #[.val (.int p1), .val (.int p2), .val (.int (0 : Int32)), .val (.ref ba), .val (.ref bp), .unset, .unset] [(.ref bp)])) rfl (by rw [hml]; rfl) (Steps.refl _) (argsL := []) (rest := []) (lenOf pd_7 rfl) rfl (by show 2 * 0 + _ ≤ _; exact Nat.le_of_eq rfl) (hb hby at_103) (fun _ _ => ⟨rfl, e110, (by decide : 5 + 1 ≤ _), (by decide : 30 + 4 ≤ _)⟩)
    dsimp only [Pt.U, Pt.locs, Pt.cells, Pt.slots] at X111 l111 y111 z111 st111 hQ111
    subst l111 y111 z111
    obtain ⟨b1, rfl, N111q, K111, V111, l111, g111⟩ := hQ111
    have N111 := Fr.app N110 N111q
    have V_ba_112 := V_ba_105.keep K111 nin0
    have E_ba_113 := E_ba_106.keep K111
    have E_bp_116 := E104.keep K111
    have F0_bp_117 := F0104.keep K111 nin0
    have F1_bp_118 := F1104.keep K111 nin0
    have V_cc_119 := V104.keep K111 nin0
    have E_cc_120 := Ec104.keep K111
    have Z121 : n0 ≤ T111.heap.size := Nat.le_trans Z107 (K111.1)
    have hk122 := Nat.le_trans (Nat.le_refl _) (K111.1)
    have g_b1 := g111
    have ne_ba_b1 : ba ≠ b1 := Nat.ne_of_lt (Nat.lt_of_lt_of_le lt_ba_b1 l111)
    have ne_bp_b1 : bp ≠ b1 := Nat.ne_of_lt (Nat.lt_of_lt_of_le lt_bp_b1 l111)
    have ne_cc_b1 : cc ≠ b1 := Nat.ne_of_lt (Nat.lt_of_lt_of_le lt_cc_b1 l111)
    obtain ⟨_, _, ⟨T123, L123, k123, n123⟩, -, X123, ⟨Lc123, hQ123, l123, y123, z123⟩, st123⟩ := Jvm.LawKit.callS X111 hx (y := (⟨"com/example/ledgerpost/ledgerpost/PayloadOfBytesPinLaw", "holds", "([BII)Z"⟩ : MethodName)) hown104 (mvT hZ104 (hw _ (List.mem_of_getElem? (i := 58) rfl))) (mvT hZ104 (hw _ (List.mem_of_getElem? (i := 59) rfl))) (mvT hZ104 (hw _ (List.mem_of_getElem? (i := 60) rfl))) (mvT hZ104 (hw _ (List.mem_of_getElem? (i := 61) rfl))) (by decide) (backOf (W := 0) (rmH0 l Z a0 hw [] b1 p2 k_ba T111.heap n0 Z121 V111) hZ104 (hw _ (List.mem_of_getElem? (i := 61) rfl)) (hw _ (List.mem_of_getElem? (i := 60) rfl)) (by decide) (by decide)) (g := (mkF m 120 #[.val (.int p1), .val (.int p2), .val (.int (0 : Int32)), .val (.ref ba), .val (.ref bp), .val (.ref b1), .unset] [(.int p2), (.int (0 : Int32)), (.ref b1)])) rfl (by rw [hml]; rfl) (argsL := [(.ref b1), (.int (0 : Int32)), (.int p2)]) (rest := []) (lenOf pd_8 rfl) rfl (by show 2 * 0 + _ ≤ _; exact Nat.le_of_eq rfl) (hb hby at_120) (fun _ _ => ⟨rfl, rfl, (by decide : 6 + 0 ≤ _), (by decide : 34 + 0 ≤ _)⟩)
    dsimp only [Pt.U, Pt.locs, Pt.cells, Pt.slots] at X123 l123 y123 z123 st123 hQ123
    subst l123 y123 z123
    obtain ⟨rfl, N123q, e123⟩ := hQ123
    have N123 := Fr.app N111 N123q
    obtain ⟨_, _, ⟨T124, L124, k124, n124⟩, -, X124, ⟨Lc124, hQ124, l124, y124, z124⟩, st124⟩ := Jvm.LawKit.callS X123 hx (y := (⟨"com/example/ledgerpost/ledgerpost/PayloadOfBytesPinLaw", "flip", "([BI)V"⟩ : MethodName)) hown104 (mvT hZ104 (hw _ (List.mem_of_getElem? (i := 62) rfl))) (mvT hZ104 (hw _ (List.mem_of_getElem? (i := 63) rfl))) (mvT hZ104 (hw _ (List.mem_of_getElem? (i := 60) rfl))) (mvT hZ104 (hw _ (List.mem_of_getElem? (i := 64) rfl))) (by decide) (backOf (W := 0) (rmF0 l Z a0 hw [] ba k_ba  T111.heap n0 Z121 V_ba_112 g_ba) hZ104 (hw _ (List.mem_of_getElem? (i := 64) rfl)) (hw _ (List.mem_of_getElem? (i := 60) rfl)) (by decide) (by decide)) (g := (mkF m 130 #[.val (.int p1), .val (.int p2), .val (.int (0 : Int32)), .val (.ref ba), .val (.ref bp), .val (.ref b1), .unset] [(.int (0 : Int32)), (.ref ba)])) rfl (by rw [hml]; rfl) (argsL := [(.ref ba), (.int (0 : Int32))]) (rest := []) (lenOf pd_9 rfl) rfl (by show 2 * 0 + _ ≤ _; exact Nat.le_of_eq rfl) (hb hby at_130) (fun _ _ => ⟨rfl, e123, (by decide : 6 + 0 ≤ _), (by decide : 34 + 0 ≤ _)⟩)
    dsimp only [Pt.U, Pt.locs, Pt.cells, Pt.slots] at X124 l124 y124 z124 st124 hQ124
    subst l124 y124 z124
    obtain ⟨rfl, N124q, K124⟩ := hQ124
    have N124 := Fr.app N123 N124q
    have E_ba_125 := E_ba_113.keep K124
    have E_bp_128 := E_bp_116.keep K124
    have F0_bp_129 := F0_bp_117.keep K124 (ninS (Ne.symm ne_ba_bp) nin0)
    have F1_bp_130 := F1_bp_118.keep K124 (ninS (Ne.symm ne_ba_bp) nin0)
    have V_cc_131 := V_cc_119.keep K124 (ninS (Ne.symm ne_ba_cc) nin0)
    have E_cc_132 := E_cc_120.keep K124
    have V_b1_133 := V111.keep K124 (ninS (Ne.symm ne_ba_b1) nin0)
    have Z137 : n0 ≤ T124.heap.size := Nat.le_trans Z121 (K124.1)
    have hk138 := Nat.le_trans hk122 (K124.1)
    have ltb1 := V_b1_133.lt
    obtain ⟨_, _, ⟨T139, L139, k139, n139⟩, -, X139, ⟨Lc139, hQ139, l139, y139, z139⟩, st139⟩ := Jvm.LawKit.callS X124 hx (y := (⟨"com/example/ledgerpost/ledgerpost/PayloadOfBytesPinLaw", "flip", "([BI)V"⟩ : MethodName)) hown104 (mvT hZ104 (hw _ (List.mem_of_getElem? (i := 62) rfl))) (mvT hZ104 (hw _ (List.mem_of_getElem? (i := 63) rfl))) (mvT hZ104 (hw _ (List.mem_of_getElem? (i := 60) rfl))) (mvT hZ104 (hw _ (List.mem_of_getElem? (i := 64) rfl))) (by decide) (backOf (W := 0) (rmF0 l Z a0 hw [] b1 k_ba  T124.heap n0 Z137 V_b1_133 g_b1) hZ104 (hw _ (List.mem_of_getElem? (i := 64) rfl)) (hw _ (List.mem_of_getElem? (i := 60) rfl)) (by decide) (by decide)) (g := (mkF m 136 #[.val (.int p1), .val (.int p2), .val (.int (0 : Int32)), .val (.ref ba), .val (.ref bp), .val (.ref b1), .unset] [(.int (0 : Int32)), (.ref b1)])) rfl (by rw [hml]; rfl) (argsL := [(.ref b1), (.int (0 : Int32))]) (rest := []) (lenOf pd_9 rfl) rfl (by show 2 * 0 + _ ≤ _; exact Nat.le_of_eq rfl) (hb hby at_136) (fun _ _ => ⟨rfl, rfl, (by decide : 6 + 0 ≤ _), (by decide : 34 + 0 ≤ _)⟩)
    dsimp only [Pt.U, Pt.locs, Pt.cells, Pt.slots] at X139 l139 y139 z139 st139 hQ139
    subst l139 y139 z139
    obtain ⟨rfl, N139q, K139⟩ := hQ139
    have N139 := Fr.app N124 N139q
    have E_ba_140 := E_ba_125.keep K139
    have E_bp_143 := E_bp_128.keep K139
    have F0_bp_144 := F0_bp_129.keep K139 (ninS ne_bp_b1 nin0)
    have F1_bp_145 := F1_bp_130.keep K139 (ninS ne_bp_b1 nin0)
    have V_cc_146 := V_cc_131.keep K139 (ninS ne_cc_b1 nin0)
    have E_cc_147 := E_cc_132.keep K139
    have Z151 : n0 ≤ T139.heap.size := Nat.le_trans Z137 (K139.1)
    have hk152 := Nat.le_trans hk138 (K139.1)
    have lt_ba_b2 := E_ba_140.lt
    have lt_bp_b2 := E_bp_143.lt
    have lt_cc_b2 := E_cc_147.lt
    have lt_b1_b2 := Nat.lt_of_lt_of_le ltb1 K139.1
    obtain ⟨cq153, kq153, q153a, q153b, q153c⟩ := isOf hZ104 rfl E_bp_143
    obtain ⟨_, _, ⟨T153, L153, k153, n153⟩, -, X153, ⟨Lc153, hQ153, l153, y153, z153⟩, st153⟩ := X139.virtualBack hx (y := (⟨"com/example/ledgerpost/ledgerpost/Payload", "bytes", "()[B"⟩ : MethodName)) (z := (⟨"com/example/ledgerpost/ledgerpost/Payload", "bytes", "()[B"⟩ : MethodName)) hown104 (mvT hZ104 (hw _ (List.mem_of_getElem? (i := 53) rfl))) (mvT hZ104 (hw _ (List.mem_of_getElem? (i := 54) rfl))) (notFace_of_selects (args := #[]) (mvT hZ104 (hw _ (List.mem_of_getElem? (i := 56) rfl)))) (mvT hZ104 (hw _ (List.mem_of_getElem? (i := 56) rfl))) (mvT hZ104 (hw _ (List.mem_of_getElem? (i := 55) rfl))) (by decide) (backOf (W := 0) (rmB l Z a0 hw [] bp cc k_ba (0 : Int32) [] T139.heap n0 Z151 F0_bp_144 F1_bp_145 V_cc_146 E_cc_147 (by decide)) hZ104 (hw _ (List.mem_of_getElem? (i := 57) rfl)) (hw _ (List.mem_of_getElem? (i := 4) rfl)) (by decide) (by decide)) q153a q153c (g := (mkF m 141 #[.val (.int p1), .val (.int p2), .val (.int (0 : Int32)), .val (.ref ba), .val (.ref bp), .val (.ref b1), .unset] [(.ref bp)])) rfl (by rw [hml]; rfl) (Steps.refl _) (argsL := []) (rest := []) (lenOf pd_7 rfl) rfl (by show 2 * 0 + _ ≤ _; exact Nat.le_of_eq rfl) (hb hby at_141) (fun _ _ => ⟨rfl, rfl, (by decide : 6 + 1 ≤ _), (by decide : 34 + 4 ≤ _)⟩)
    dsimp only [Pt.U, Pt.locs, Pt.cells, Pt.slots] at X153 l153 y153 z153 st153 hQ153
    subst l153 y153 z153
    obtain ⟨b2, rfl, N153q, K153, V153, l153, g153⟩ := hQ153
    have N153 := Fr.app N139 N153q
    have E_ba_154 := E_ba_140.keep K153
    have E_bp_157 := E_bp_143.keep K153
    have F0_bp_158 := F0_bp_144.keep K153 nin0
    have F1_bp_159 := F1_bp_145.keep K153 nin0
    have V_cc_160 := V_cc_146.keep K153 nin0
    have E_cc_161 := E_cc_147.keep K153
    have Z165 : n0 ≤ T153.heap.size := Nat.le_trans Z151 (K153.1)
    have hk166 := Nat.le_trans hk152 (K153.1)
    have ne_ba_b2 : ba ≠ b2 := Nat.ne_of_lt (Nat.lt_of_lt_of_le lt_ba_b2 l153)
    have ne_b1_b2 : b1 ≠ b2 := Nat.ne_of_lt (Nat.lt_of_lt_of_le lt_b1_b2 l153)
    obtain ⟨_, _, ⟨T167, L167, k167, n167⟩, -, X167, ⟨Lc167, hQ167, l167, y167, z167⟩, st167⟩ := Jvm.LawKit.callS X153 hx (y := (⟨"com/example/ledgerpost/ledgerpost/PayloadOfBytesPinLaw", "holds", "([BII)Z"⟩ : MethodName)) hown104 (mvT hZ104 (hw _ (List.mem_of_getElem? (i := 58) rfl))) (mvT hZ104 (hw _ (List.mem_of_getElem? (i := 59) rfl))) (mvT hZ104 (hw _ (List.mem_of_getElem? (i := 60) rfl))) (mvT hZ104 (hw _ (List.mem_of_getElem? (i := 61) rfl))) (by decide) (backOf (W := 0) (rmH0 l Z a0 hw [] b2 p2 k_ba T153.heap n0 Z165 V153) hZ104 (hw _ (List.mem_of_getElem? (i := 61) rfl)) (hw _ (List.mem_of_getElem? (i := 60) rfl)) (by decide) (by decide)) (g := (mkF m 165 #[.val (.int p1), .val (.int p2), .val (.int (0 : Int32)), .val (.ref ba), .val (.ref bp), .val (.ref b1), .val (.ref b2)] [(.int p2), (.int (0 : Int32)), (.ref b2)])) rfl (by rw [hml]; rfl) (argsL := [(.ref b2), (.int (0 : Int32)), (.int p2)]) (rest := []) (lenOf pd_8 rfl) rfl (by show 2 * 0 + _ ≤ _; exact Nat.le_of_eq rfl) (hb hby at_165) (fun _ _ => ⟨rfl, rfl, (by decide : 7 + 0 ≤ _), (by decide : 38 + 0 ≤ _)⟩)
    dsimp only [Pt.U, Pt.locs, Pt.cells, Pt.slots] at X167 l167 y167 z167 st167 hQ167
    subst l167 y167 z167
    obtain ⟨rfl, N167q, e167⟩ := hQ167
    have N167 := Fr.app N153 N167q
    have pre168 : ∀ t_, Steps p.tables e below (T167.setTop (mkF m 168 #[.val (.int p1), .val (.int p2), .val (.int (0 : Int32)), .val (.ref ba), .val (.ref bp), .val (.ref b1), .val (.ref b2)] [(.int (1 : Int32))])) t_ → Steps p.tables e below (s₁.setTop (entryFrame m #[(.int p1), (.int p2)] maxLocals)) t_ := fun t_ k_ => pre101 _ (by
      show Steps p.tables e below (s₁.setTop (mkF m 7 #[.val (.int p1), .val (.int p2), .val (.int (0 : Int32)), .unset, .unset, .unset, .unset] [])) _
      refine XS.iloadN X0.here hx rfl (hb hby at_7) rfl ?_
      show Steps p.tables e below (s₁.setTop (mkF m 8 #[.val (.int p1), .val (.int p2), .val (.int (0 : Int32)), .unset, .unset, .unset, .unset] [(.int (0 : Int32))])) _
      refine st102 _ ?_
      show Steps p.tables e below (T102.setTop (mkF m 10 #[.val (.int p1), .val (.int p2), .val (.int (0 : Int32)), .unset, .unset, .unset, .unset] [(.ref ba)])) _
      refine XS.astoreN X102.here hx rfl (hb hby at_10) rfl rfl (l' := #[.val (.int p1), .val (.int p2), .val (.int (0 : Int32)), .val (.ref ba), .unset, .unset, .unset]) rfl ?_
      show Steps p.tables e below (T102.setTop (mkF m 11 #[.val (.int p1), .val (.int p2), .val (.int (0 : Int32)), .val (.ref ba), .unset, .unset, .unset] [])) _
      refine XS.iloadN X102.here hx rfl (hb hby at_11) rfl ?_
      show Steps p.tables e below (T102.setTop (mkF m 12 #[.val (.int p1), .val (.int p2), .val (.int (0 : Int32)), .val (.ref ba), .unset, .unset, .unset] [(.int (0 : Int32))])) _
      refine XS.ifYes X102.here hx rfl (pc0 := 12) (pc' := 23) rfl (hb hby at_12) rfl ((if0 _ _).trans (flt (by decide)).2.2.2) (by decide) (by decide) ?_
      show Steps p.tables e below (T102.setTop (mkF m 23 #[.val (.int p1), .val (.int p2), .val (.int (0 : Int32)), .val (.ref ba), .unset, .unset, .unset] [])) _
      refine XS.iloadN X102.here hx rfl (hb hby at_23) rfl ?_
      show Steps p.tables e below (T102.setTop (mkF m 24 #[.val (.int p1), .val (.int p2), .val (.int (0 : Int32)), .val (.ref ba), .unset, .unset, .unset] [(.int (0 : Int32))])) _
      refine XS.iconst X102.here hx rfl (hb hby at_24) ?_
      show Steps p.tables e below (T102.setTop (mkF m 25 #[.val (.int p1), .val (.int p2), .val (.int (0 : Int32)), .val (.ref ba), .unset, .unset, .unset] [(.int (1 : Int32)), (.int (0 : Int32))])) _
      refine XS.icmpYes X102.here hx rfl (pc0 := 25) (pc' := 36) rfl (hb hby at_25) rfl (flt (by decide)).2.2.2 (by decide) (by decide) ?_
      show Steps p.tables e below (T102.setTop (mkF m 36 #[.val (.int p1), .val (.int p2), .val (.int (0 : Int32)), .val (.ref ba), .unset, .unset, .unset] [])) _
      refine XS.iloadN X102.here hx rfl (hb hby at_36) rfl ?_
      show Steps p.tables e below (T102.setTop (mkF m 37 #[.val (.int p1), .val (.int p2), .val (.int (0 : Int32)), .val (.ref ba), .unset, .unset, .unset] [(.int (0 : Int32))])) _
      refine XS.iconst X102.here hx rfl (hb hby at_37) ?_
      show Steps p.tables e below (T102.setTop (mkF m 38 #[.val (.int p1), .val (.int p2), .val (.int (0 : Int32)), .val (.ref ba), .unset, .unset, .unset] [(.int (2 : Int32)), (.int (0 : Int32))])) _
      refine XS.icmpYes X102.here hx rfl (pc0 := 38) (pc' := 49) rfl (hb hby at_38) rfl (flt (by decide)).2.2.2 (by decide) (by decide) ?_
      show Steps p.tables e below (T102.setTop (mkF m 49 #[.val (.int p1), .val (.int p2), .val (.int (0 : Int32)), .val (.ref ba), .unset, .unset, .unset] [])) _
      refine XS.iloadN X102.here hx rfl (hb hby at_49) rfl ?_
      show Steps p.tables e below (T102.setTop (mkF m 50 #[.val (.int p1), .val (.int p2), .val (.int (0 : Int32)), .val (.ref ba), .unset, .unset, .unset] [(.int (0 : Int32))])) _
      refine XS.iconst X102.here hx rfl (hb hby at_50) ?_
      show Steps p.tables e below (T102.setTop (mkF m 51 #[.val (.int p1), .val (.int p2), .val (.int (0 : Int32)), .val (.ref ba), .unset, .unset, .unset] [(.int (3 : Int32)), (.int (0 : Int32))])) _
      refine XS.icmpYes X102.here hx rfl (pc0 := 51) (pc' := 62) rfl (hb hby at_51) rfl (flt (by decide)).2.2.2 (by decide) (by decide) ?_
      show Steps p.tables e below (T102.setTop (mkF m 62 #[.val (.int p1), .val (.int p2), .val (.int (0 : Int32)), .val (.ref ba), .unset, .unset, .unset] [])) _
      refine XS.aloadN X102.here hx rfl (hb hby at_62) rfl rfl ?_
      show Steps p.tables e below (T102.setTop (mkF m 63 #[.val (.int p1), .val (.int p2), .val (.int (0 : Int32)), .val (.ref ba), .unset, .unset, .unset] [(.ref ba)])) _
      refine st104.trans ?_
      show Steps p.tables e below (T104.setTop (mkF m 66 #[.val (.int p1), .val (.int p2), .val (.int (0 : Int32)), .val (.ref ba), .unset, .unset, .unset] [(.ref bp)])) _
      refine XS.astore X104'.here hx rfl (hb hby at_66) rfl rfl (l' := #[.val (.int p1), .val (.int p2), .val (.int (0 : Int32)), .val (.ref ba), .val (.ref bp), .unset, .unset]) rfl ?_
      show Steps p.tables e below (T104.setTop (mkF m 68 #[.val (.int p1), .val (.int p2), .val (.int (0 : Int32)), .val (.ref ba), .val (.ref bp), .unset, .unset] [])) _
      refine XS.aload X104'.here hx rfl (hb hby at_68) rfl rfl ?_
      show Steps p.tables e below (T104.setTop (mkF m 70 #[.val (.int p1), .val (.int p2), .val (.int (0 : Int32)), .val (.ref ba), .val (.ref bp), .unset, .unset] [(.ref bp)])) _
      refine st108.trans ?_
      show Steps p.tables e below (T108.setTop (mkF m 73 #[.val (.int p1), .val (.int p2), .val (.int (0 : Int32)), .val (.ref ba), .val (.ref bp), .unset, .unset] [(.int (0 : Int32))])) _
      refine XS.ifYes X108.here hx rfl (pc0 := 73) (pc' := 78) rfl (hb hby at_73) rfl ((if0 _ _).trans (teq (rfl : (0 : Int32) = 0)).1) (by decide) (by decide) ?_
      show Steps p.tables e below (T108.setTop (mkF m 78 #[.val (.int p1), .val (.int p2), .val (.int (0 : Int32)), .val (.ref ba), .val (.ref bp), .unset, .unset] [])) _
      refine XS.aload X108.here hx rfl (hb hby at_78) rfl rfl ?_
      show Steps p.tables e below (T108.setTop (mkF m 80 #[.val (.int p1), .val (.int p2), .val (.int (0 : Int32)), .val (.ref ba), .val (.ref bp), .unset, .unset] [(.ref bp)])) _
      refine st109.trans ?_
      show Steps p.tables e below (T109.setTop (mkF m 83 #[.val (.int p1), .val (.int p2), .val (.int (0 : Int32)), .val (.ref ba), .val (.ref bp), .unset, .unset] [.null])) _
      refine XS.ifnullYes X109.here hx rfl (pc0 := 83) (pc' := 88) rfl (hb hby at_83) rfl (by decide) (by decide) ?_
      show Steps p.tables e below (T109.setTop (mkF m 88 #[.val (.int p1), .val (.int p2), .val (.int (0 : Int32)), .val (.ref ba), .val (.ref bp), .unset, .unset] [])) _
      refine XS.aload X109.here hx rfl (hb hby at_88) rfl rfl ?_
      show Steps p.tables e below (T109.setTop (mkF m 90 #[.val (.int p1), .val (.int p2), .val (.int (0 : Int32)), .val (.ref ba), .val (.ref bp), .unset, .unset] [(.ref bp)])) _
      refine st110.trans ?_
      show Steps p.tables e below (T110.setTop (mkF m 93 #[.val (.int p1), .val (.int p2), .val (.int (0 : Int32)), .val (.ref ba), .val (.ref bp), .unset, .unset] [(.long ((0 : Int32).toInt64))])) _
      refine XS.iloadN X110.here hx rfl (hb hby at_93) rfl ?_
      show Steps p.tables e below (T110.setTop (mkF m 94 #[.val (.int p1), .val (.int p2), .val (.int (0 : Int32)), .val (.ref ba), .val (.ref bp), .unset, .unset] [(.int (0 : Int32)), (.long ((0 : Int32).toInt64))])) _
      refine XS.i2l X110.here hx rfl (hb hby at_94) rfl ?_
      show Steps p.tables e below (T110.setTop (mkF m 95 #[.val (.int p1), .val (.int p2), .val (.int (0 : Int32)), .val (.ref ba), .val (.ref bp), .unset, .unset] [(.long ((0 : Int32).toInt64)), (.long ((0 : Int32).toInt64))])) _
      refine XS.lcmp X110.here hx rfl (hb hby at_95) rfl ?_
      show Steps p.tables e below (T110.setTop (mkF m 96 #[.val (.int p1), .val (.int p2), .val (.int (0 : Int32)), .val (.ref ba), .val (.ref bp), .unset, .unset] [(.int (lcmpW ((0 : Int32).toInt64) ((0 : Int32).toInt64)))])) _
      refine XS.ifYes X110.here hx rfl (pc0 := 96) (pc' := 101) rfl (hb hby at_96) rfl ((if0 _ _).trans (teq ((lw_eq _ _).mpr rfl)).1) (by decide) (by decide) ?_
      show Steps p.tables e below (T110.setTop (mkF m 101 #[.val (.int p1), .val (.int p2), .val (.int (0 : Int32)), .val (.ref ba), .val (.ref bp), .unset, .unset] [])) _
      refine XS.aload X110.here hx rfl (hb hby at_101) rfl rfl ?_
      show Steps p.tables e below (T110.setTop (mkF m 103 #[.val (.int p1), .val (.int p2), .val (.int (0 : Int32)), .val (.ref ba), .val (.ref bp), .unset, .unset] [(.ref bp)])) _
      refine st111.trans ?_
      show Steps p.tables e below (T111.setTop (mkF m 106 #[.val (.int p1), .val (.int p2), .val (.int (0 : Int32)), .val (.ref ba), .val (.ref bp), .unset, .unset] [(.ref b1)])) _
      refine XS.astore X111.here hx rfl (hb hby at_106) rfl rfl (l' := #[.val (.int p1), .val (.int p2), .val (.int (0 : Int32)), .val (.ref ba), .val (.ref bp), .val (.ref b1), .unset]) rfl ?_
      show Steps p.tables e below (T111.setTop (mkF m 108 #[.val (.int p1), .val (.int p2), .val (.int (0 : Int32)), .val (.ref ba), .val (.ref bp), .val (.ref b1), .unset] [])) _
      refine XS.aload X111.here hx rfl (hb hby at_108) rfl rfl ?_
      show Steps p.tables e below (T111.setTop (mkF m 110 #[.val (.int p1), .val (.int p2), .val (.int (0 : Int32)), .val (.ref ba), .val (.ref bp), .val (.ref b1), .unset] [(.ref b1)])) _
      refine XS.aloadN X111.here hx rfl (hb hby at_110) rfl rfl ?_
      show Steps p.tables e below (T111.setTop (mkF m 111 #[.val (.int p1), .val (.int p2), .val (.int (0 : Int32)), .val (.ref ba), .val (.ref bp), .val (.ref b1), .unset] [(.ref ba), (.ref b1)])) _
      refine Jvm.RoadKit.acmp (g := (mkF m 111 #[.val (.int p1), .val (.int p2), .val (.int (0 : Int32)), .val (.ref ba), .val (.ref bp), .val (.ref b1), .unset] [(.ref ba), (.ref b1)])) X111 hx rfl rfl rfl (pc0 := 111) (pc' := 116) (same := false) rfl (hb hby at_111) rfl (decide_eq_false fun q => (Ne.symm ne_ba_b1) (Value.ref.inj q)) (by decide) (by decide) ?_
      show Steps p.tables e below (T111.setTop (mkF m 116 #[.val (.int p1), .val (.int p2), .val (.int (0 : Int32)), .val (.ref ba), .val (.ref bp), .val (.ref b1), .unset] [])) _
      refine XS.aload X111.here hx rfl (hb hby at_116) rfl rfl ?_
      show Steps p.tables e below (T111.setTop (mkF m 118 #[.val (.int p1), .val (.int p2), .val (.int (0 : Int32)), .val (.ref ba), .val (.ref bp), .val (.ref b1), .unset] [(.ref b1)])) _
      refine XS.iloadN X111.here hx rfl (hb hby at_118) rfl ?_
      show Steps p.tables e below (T111.setTop (mkF m 119 #[.val (.int p1), .val (.int p2), .val (.int (0 : Int32)), .val (.ref ba), .val (.ref bp), .val (.ref b1), .unset] [(.int (0 : Int32)), (.ref b1)])) _
      refine XS.iloadN X111.here hx rfl (hb hby at_119) rfl ?_
      show Steps p.tables e below (T111.setTop (mkF m 120 #[.val (.int p1), .val (.int p2), .val (.int (0 : Int32)), .val (.ref ba), .val (.ref bp), .val (.ref b1), .unset] [(.int p2), (.int (0 : Int32)), (.ref b1)])) _
      refine st123 _ ?_
      show Steps p.tables e below (T123.setTop (mkF m 123 #[.val (.int p1), .val (.int p2), .val (.int (0 : Int32)), .val (.ref ba), .val (.ref bp), .val (.ref b1), .unset] [(.int (1 : Int32))])) _
      refine XS.ifYes X123.here hx rfl (pc0 := 123) (pc' := 128) rfl (hb hby at_123) rfl ((if0 _ _).trans (feq (by decide : ¬ (1 : Int32) = 0)).2) (by decide) (by decide) ?_
      show Steps p.tables e below (T123.setTop (mkF m 128 #[.val (.int p1), .val (.int p2), .val (.int (0 : Int32)), .val (.ref ba), .val (.ref bp), .val (.ref b1), .unset] [])) _
      refine XS.aloadN X123.here hx rfl (hb hby at_128) rfl rfl ?_
      show Steps p.tables e below (T123.setTop (mkF m 129 #[.val (.int p1), .val (.int p2), .val (.int (0 : Int32)), .val (.ref ba), .val (.ref bp), .val (.ref b1), .unset] [(.ref ba)])) _
      refine XS.iloadN X123.here hx rfl (hb hby at_129) rfl ?_
      show Steps p.tables e below (T123.setTop (mkF m 130 #[.val (.int p1), .val (.int p2), .val (.int (0 : Int32)), .val (.ref ba), .val (.ref bp), .val (.ref b1), .unset] [(.int (0 : Int32)), (.ref ba)])) _
      refine st124 _ ?_
      show Steps p.tables e below (T124.setTop (mkF m 133 #[.val (.int p1), .val (.int p2), .val (.int (0 : Int32)), .val (.ref ba), .val (.ref bp), .val (.ref b1), .unset] [])) _
      refine XS.aload X124.here hx rfl (hb hby at_133) rfl rfl ?_
      show Steps p.tables e below (T124.setTop (mkF m 135 #[.val (.int p1), .val (.int p2), .val (.int (0 : Int32)), .val (.ref ba), .val (.ref bp), .val (.ref b1), .unset] [(.ref b1)])) _
      refine XS.iloadN X124.here hx rfl (hb hby at_135) rfl ?_
      show Steps p.tables e below (T124.setTop (mkF m 136 #[.val (.int p1), .val (.int p2), .val (.int (0 : Int32)), .val (.ref ba), .val (.ref bp), .val (.ref b1), .unset] [(.int (0 : Int32)), (.ref b1)])) _
      refine st139 _ ?_
      show Steps p.tables e below (T139.setTop (mkF m 139 #[.val (.int p1), .val (.int p2), .val (.int (0 : Int32)), .val (.ref ba), .val (.ref bp), .val (.ref b1), .unset] [])) _
      refine XS.aload X139.here hx rfl (hb hby at_139) rfl rfl ?_
      show Steps p.tables e below (T139.setTop (mkF m 141 #[.val (.int p1), .val (.int p2), .val (.int (0 : Int32)), .val (.ref ba), .val (.ref bp), .val (.ref b1), .unset] [(.ref bp)])) _
      refine st153.trans ?_
      show Steps p.tables e below (T153.setTop (mkF m 144 #[.val (.int p1), .val (.int p2), .val (.int (0 : Int32)), .val (.ref ba), .val (.ref bp), .val (.ref b1), .unset] [(.ref b2)])) _
      refine XS.astore X153.here hx rfl (hb hby at_144) rfl rfl (l' := #[.val (.int p1), .val (.int p2), .val (.int (0 : Int32)), .val (.ref ba), .val (.ref bp), .val (.ref b1), .val (.ref b2)]) rfl ?_
      show Steps p.tables e below (T153.setTop (mkF m 146 #[.val (.int p1), .val (.int p2), .val (.int (0 : Int32)), .val (.ref ba), .val (.ref bp), .val (.ref b1), .val (.ref b2)] [])) _
      refine XS.aload X153.here hx rfl (hb hby at_146) rfl rfl ?_
      show Steps p.tables e below (T153.setTop (mkF m 148 #[.val (.int p1), .val (.int p2), .val (.int (0 : Int32)), .val (.ref ba), .val (.ref bp), .val (.ref b1), .val (.ref b2)] [(.ref b2)])) _
      refine XS.aload X153.here hx rfl (hb hby at_148) rfl rfl ?_
      show Steps p.tables e below (T153.setTop (mkF m 150 #[.val (.int p1), .val (.int p2), .val (.int (0 : Int32)), .val (.ref ba), .val (.ref bp), .val (.ref b1), .val (.ref b2)] [(.ref b1), (.ref b2)])) _
      refine Jvm.RoadKit.acmp (g := (mkF m 150 #[.val (.int p1), .val (.int p2), .val (.int (0 : Int32)), .val (.ref ba), .val (.ref bp), .val (.ref b1), .val (.ref b2)] [(.ref b1), (.ref b2)])) X153 hx rfl rfl rfl (pc0 := 150) (pc' := 153) (same := false) rfl (hb hby at_150) rfl (decide_eq_false fun q => ne_b1_b2.symm (Value.ref.inj q)) (by decide) (by decide) ?_
      show Steps p.tables e below (T153.setTop (mkF m 153 #[.val (.int p1), .val (.int p2), .val (.int (0 : Int32)), .val (.ref ba), .val (.ref bp), .val (.ref b1), .val (.ref b2)] [])) _
      refine XS.aload X153.here hx rfl (hb hby at_153) rfl rfl ?_
      show Steps p.tables e below (T153.setTop (mkF m 155 #[.val (.int p1), .val (.int p2), .val (.int (0 : Int32)), .val (.ref ba), .val (.ref bp), .val (.ref b1), .val (.ref b2)] [(.ref b2)])) _
      refine XS.aloadN X153.here hx rfl (hb hby at_155) rfl rfl ?_
      show Steps p.tables e below (T153.setTop (mkF m 156 #[.val (.int p1), .val (.int p2), .val (.int (0 : Int32)), .val (.ref ba), .val (.ref bp), .val (.ref b1), .val (.ref b2)] [(.ref ba), (.ref b2)])) _
      refine Jvm.RoadKit.acmp (g := (mkF m 156 #[.val (.int p1), .val (.int p2), .val (.int (0 : Int32)), .val (.ref ba), .val (.ref bp), .val (.ref b1), .val (.ref b2)] [(.ref ba), (.ref b2)])) X153 hx rfl rfl rfl (pc0 := 156) (pc' := 161) (same := false) rfl (hb hby at_156) rfl (decide_eq_false fun q => ne_ba_b2.symm (Value.ref.inj q)) (by decide) (by decide) ?_
      show Steps p.tables e below (T153.setTop (mkF m 161 #[.val (.int p1), .val (.int p2), .val (.int (0 : Int32)), .val (.ref ba), .val (.ref bp), .val (.ref b1), .val (.ref b2)] [])) _
      refine XS.aload X153.here hx rfl (hb hby at_161) rfl rfl ?_
      show Steps p.tables e below (T153.setTop (mkF m 163 #[.val (.int p1), .val (.int p2), .val (.int (0 : Int32)), .val (.ref ba), .val (.ref bp), .val (.ref b1), .val (.ref b2)] [(.ref b2)])) _
      refine XS.iloadN X153.here hx rfl (hb hby at_163) rfl ?_
      show Steps p.tables e below (T153.setTop (mkF m 164 #[.val (.int p1), .val (.int p2), .val (.int (0 : Int32)), .val (.ref ba), .val (.ref bp), .val (.ref b1), .val (.ref b2)] [(.int (0 : Int32)), (.ref b2)])) _
      refine XS.iloadN X153.here hx rfl (hb hby at_164) rfl ?_
      show Steps p.tables e below (T153.setTop (mkF m 165 #[.val (.int p1), .val (.int p2), .val (.int (0 : Int32)), .val (.ref ba), .val (.ref bp), .val (.ref b1), .val (.ref b2)] [(.int p2), (.int (0 : Int32)), (.ref b2)])) _
      refine st167 _ ?_
      exact k_)
    obtain ⟨fs, hr, hrun, hended, hWr, hW1, hW2, hsame⟩ := Jvm.Stand.leaveW (s := s) X167 hS104' (by rw [e167]; exact hk166) (v := some (.int (1 : Int32))) (fun h => by rw [Bd.returns] at h; cases h)
    refine ⟨_, _, pre168 _ ?_, hrun, hended, _, _, rfl, ?_, hWr, hW1, hW2, hsame.mono (by decide) (by decide)⟩
    · show Steps p.tables e below (T167.setTop (mkF m 168 #[.val (.int p1), .val (.int p2), .val (.int (0 : Int32)), .val (.ref ba), .val (.ref bp), .val (.ref b1), .val (.ref b2)] [(.int (1 : Int32))])) _
      exact retN X167 hx (t := .boolean) Bd.returns (by simp) (hb hby at_168) hr
    · show Qrm0 Z p1 p2 h0 n0 _ T167.heap _
      rw [e167]
      exact ⟨rfl, N167⟩
  · skip
    subst q
    obtain ⟨T169, h169, k_ba, X169, e169, Ext_ba, A_ba, E_ba, st169⟩ := newPE X0 hx hZ (hw _ (List.mem_of_getElem? (i := 1) rfl)) e0 (g := (mkF m 8 #[.val (.int p1), .val (.int p2), .val (.int (1 : Int32)), .unset, .unset, .unset, .unset] [(.int (1 : Int32))])) rfl (hb hby at_8) rfl (by decide) (cap := 1) (by decide) (by decide) (by decide) (by decide) (ad := "[B") (by decide)
    obtain ⟨ba, eq_ba⟩ : ∃ z, z = h0.size := ⟨_, rfl⟩
    rw [← eq_ba] at A_ba E_ba st169
    have g_ba : n0 ≤ ba := Nat.le_trans Z0 (Nat.le_of_eq eq_ba.symm)
    have Z170 : n0 ≤ h169.size := Nat.le_trans Z0 (Ext_ba.1)
    have V_ba : Arv Z h169 ba k_ba .byte (1 : Int32) [(.int (0 : Int32))] (.int (0 : Int32)) := (Arv.new A_ba (by decide)).pad (pad_rep [] (.int (0 : Int32)) 1)
    obtain ⟨_, _, ⟨T171, L171, k171, n171⟩, -, X171, ⟨Lc171, hQ171, l171, y171, z171⟩, st171⟩ := Jvm.LawKit.callS X169 hx (y := (⟨"com/example/ledgerpost/ledgerpost/PayloadOfBytesPinLaw", "at", "(II)B"⟩ : MethodName)) hown (mvT hZ (hw _ (List.mem_of_getElem? (i := 65) rfl))) (mvT hZ (hw _ (List.mem_of_getElem? (i := 66) rfl))) (mvT hZ (hw _ (List.mem_of_getElem? (i := 60) rfl))) (mvT hZ (hw _ (List.mem_of_getElem? (i := 67) rfl))) (by decide) (backOf (W := 2) (rmA l Z a0 hw [] p2 (0 : Int32) h169 n0 Z170 ) hZ (hw _ (List.mem_of_getElem? (i := 67) rfl)) (hw _ (List.mem_of_getElem? (i := 60) rfl)) (by decide) (by decide)) (g := (mkF m 19 #[.val (.int p1), .val (.int p2), .val (.int (1 : Int32)), .val (.ref ba), .unset, .unset, .unset] [(.int (0 : Int32)), (.int p2), (.int (0 : Int32)), (.ref ba)])) rfl (by rw [hml]; rfl) (argsL := [(.int p2), (.int (0 : Int32))]) (rest := [(.int (0 : Int32)), (.ref ba)]) (lenOf pd_2 rfl) rfl (by show 2 * 0 + _ ≤ _; exact Nat.le_of_eq rfl) (hb hby at_19) (fun _ _ => ⟨rfl, e169, (by decide : 1 + 0 ≤ _), (by decide : 1 + 0 ≤ _)⟩)
    dsimp only [Pt.U, Pt.locs, Pt.cells, Pt.slots] at X171 l171 y171 z171 st171 hQ171
    subst l171 y171 z171
    obtain ⟨rfl, N171q, e171⟩ := hQ171
    have N171 := Fr.app N0 N171q
    obtain ⟨cl172, Ar172, qk172, Sz172, Ng172, Hs172, Gs172⟩ := V_ba
    have hin172 : ¬ ((0 : Int32) < 0 ∨ cl172.slots.size ≤ ((0 : Int32)).toNatClampNeg) := inb_of Sz172 ⟨by decide, by decide⟩
    obtain ⟨T173, h173, X173, e173, W173, st173⟩ := stB X171 hx hZ e171 Ar172 (j := (0 : Int32)) hin172 (g := (mkF m 22 #[.val (.int p1), .val (.int p2), .val (.int (1 : Int32)), .val (.ref ba), .unset, .unset, .unset] [(.int (own_at8 p2 (0 : Int32))), (.int (0 : Int32)), (.ref ba)])) rfl rfl (hb hby at_22)
    have E_ba_174 := E_ba.wr W173
    have V_ba_173 : Arv Z h173 ba k_ba .byte (1 : Int32) [(.int (nar .byte (own_at8 p2 (0 : Int32))))] (.int (0 : Int32)) := Arv.set Ar172 qk172 Sz172 Ng172 Hs172 Gs172 (fits_nar_byte _) W173 0 rfl (Nat.le_of_ble_eq_true rfl)
    have N173 := Fr.snoc X173 N171 g_ba
    have Z175 : n0 ≤ h173.size := Nat.le_trans Z170 ((Keep.of_wr W173).1)
    have lt_ba := V_ba_173.lt
    obtain ⟨_, _, ⟨T176, L176, k176, n176⟩, -, X176, hS176, hle176, ⟨Lc176, hQ176, l176, y176, z176⟩, st176⟩ := callSS (s := s) X173 hx (y := (⟨"com/example/ledgerpost/ledgerpost/Payload", "ofBytes", "([B)Lcom/example/ledgerpost/ledgerpost/Payload;"⟩ : MethodName)) hown (mvT hZ (hw _ (List.mem_of_getElem? (i := 2) rfl))) (mvT hZ (hw _ (List.mem_of_getElem? (i := 3) rfl))) (mvT hZ (hw _ (List.mem_of_getElem? (i := 4) rfl))) (mvT hZ (hw _ (List.mem_of_getElem? (i := 5) rfl))) (by decide) (backOfS (W := 0) (rmO l Z a0 hw [] ba k_ba (1 : Int32) [(.int (nar .byte (own_at8 p2 (0 : Int32))))] h173 n0 Z175 V_ba_173 E_ba_174 (by decide)) hZ (hw _ (List.mem_of_getElem? (i := 5) rfl)) (hw _ (List.mem_of_getElem? (i := 4) rfl)) (by decide) (by decide)) (g := (mkF m 63 #[.val (.int p1), .val (.int p2), .val (.int (1 : Int32)), .val (.ref ba), .unset, .unset, .unset] [(.ref ba)])) rfl (by rw [hml]; rfl) (argsL := [(.ref ba)]) (rest := []) (lenOf pd_3 rfl) rfl (by show 2 * 0 + _ ≤ _; exact Nat.le_of_eq rfl) (hb hby at_63) (fun _ _ => ⟨rfl, e173, (by decide : 1 + 4 ≤ _), (by decide : 1 + 30 ≤ _)⟩)
    dsimp only [Pt.U, Pt.locs, Pt.cells, Pt.slots] at X176 l176 y176 z176 st176 hQ176 hS176 hle176
    subst l176 y176 z176
    have hle176' : h173.size ≤ T176.heap.size := by have q := hle176; rw [e173] at q; exact q
    obtain ⟨X176', hS176', hZ176, hown176⟩ := rebS (s := s) (vm0 := s.vm) ((State.WarmedH.refl s).since 0) (Nat.zero_le _) X176 hS176 hle176' hZ hown
    obtain ⟨bp, cc, rfl, N176q, K176, E176, F0176, F1176, V176, Ec176, lb176, lc176⟩ := hQ176
    have N176 := Fr.app N173 N176q
    have V_ba_177 := V_ba_173.keep K176 nin0
    have E_ba_178 := E_ba_174.keep K176
    have Z179 : n0 ≤ T176.heap.size := Nat.le_trans Z175 (K176.1)
    have ne_ba_bp : ba ≠ bp := Nat.ne_of_lt (Nat.lt_of_lt_of_le lt_ba lb176)
    have ne_ba_cc : ba ≠ cc := Nat.ne_of_lt (Nat.lt_of_lt_of_le lt_ba lc176)
    obtain ⟨cq180, kq180, q180a, q180b, q180c⟩ := isOf hZ176 rfl E176
    obtain ⟨_, _, ⟨T180, L180, k180, n180⟩, -, X180, ⟨Lc180, hQ180, l180, y180, z180⟩, st180⟩ := X176'.virtualBack hx (y := (⟨"com/example/ledgerpost/ledgerpost/Payload", "isText", "()Z"⟩ : MethodName)) (z := (⟨"com/example/ledgerpost/ledgerpost/Payload", "isText", "()Z"⟩ : MethodName)) hown176 (mvT hZ176 (hw _ (List.mem_of_getElem? (i := 38) rfl))) (mvT hZ176 (hw _ (List.mem_of_getElem? (i := 39) rfl))) (notFace_of_selects (args := #[]) (mvT hZ176 (hw _ (List.mem_of_getElem? (i := 41) rfl)))) (mvT hZ176 (hw _ (List.mem_of_getElem? (i := 41) rfl))) (mvT hZ176 (hw _ (List.mem_of_getElem? (i := 40) rfl))) (by decide) (backOf (W := 0) (rmI l Z a0 hw [] bp T176.heap n0 Z179 F0176) hZ176 (hw _ (List.mem_of_getElem? (i := 42) rfl)) (hw _ (List.mem_of_getElem? (i := 4) rfl)) (by decide) (by decide)) q180a q180c (g := (mkF m 70 #[.val (.int p1), .val (.int p2), .val (.int (1 : Int32)), .val (.ref ba), .val (.ref bp), .unset, .unset] [(.ref bp)])) rfl (by rw [hml]; rfl) (Steps.refl _) (argsL := []) (rest := []) (lenOf pd_4 rfl) rfl (by show 2 * 0 + _ ≤ _; exact Nat.le_of_eq rfl) (hb hby at_70) (fun _ _ => ⟨rfl, rfl, (by decide : 5 + 0 ≤ _), (by decide : 31 + 0 ≤ _)⟩)
    dsimp only [Pt.U, Pt.locs, Pt.cells, Pt.slots] at X180 l180 y180 z180 st180 hQ180
    subst l180 y180 z180
    obtain ⟨rfl, N180q, e180⟩ := hQ180
    have N180 := Fr.app N176 N180q
    obtain ⟨cq181, kq181, q181a, q181b, q181c⟩ := isOf hZ176 e180 E176
    obtain ⟨_, _, ⟨T181, L181, k181, n181⟩, -, X181, ⟨Lc181, hQ181, l181, y181, z181⟩, st181⟩ := X180.virtualBack hx (y := (⟨"com/example/ledgerpost/ledgerpost/Payload", "text", "()Ljava/lang/String;"⟩ : MethodName)) (z := (⟨"com/example/ledgerpost/ledgerpost/Payload", "text", "()Ljava/lang/String;"⟩ : MethodName)) hown176 (mvT hZ176 (hw _ (List.mem_of_getElem? (i := 43) rfl))) (mvT hZ176 (hw _ (List.mem_of_getElem? (i := 44) rfl))) (notFace_of_selects (args := #[]) (mvT hZ176 (hw _ (List.mem_of_getElem? (i := 46) rfl)))) (mvT hZ176 (hw _ (List.mem_of_getElem? (i := 46) rfl))) (mvT hZ176 (hw _ (List.mem_of_getElem? (i := 45) rfl))) (by decide) (backOf (W := 0) (rmT l Z a0 hw [] bp T176.heap n0 Z179 F0176) hZ176 (hw _ (List.mem_of_getElem? (i := 47) rfl)) (hw _ (List.mem_of_getElem? (i := 4) rfl)) (by decide) (by decide)) q181a q181c (g := (mkF m 80 #[.val (.int p1), .val (.int p2), .val (.int (1 : Int32)), .val (.ref ba), .val (.ref bp), .unset, .unset] [(.ref bp)])) rfl (by rw [hml]; rfl) (Steps.refl _) (argsL := []) (rest := []) (lenOf pd_5 rfl) rfl (by show 2 * 0 + _ ≤ _; exact Nat.le_of_eq rfl) (hb hby at_80) (fun _ _ => ⟨rfl, e180, (by decide : 5 + 0 ≤ _), (by decide : 31 + 0 ≤ _)⟩)
    dsimp only [Pt.U, Pt.locs, Pt.cells, Pt.slots] at X181 l181 y181 z181 st181 hQ181
    subst l181 y181 z181
    obtain ⟨rfl, N181q, e181⟩ := hQ181
    have N181 := Fr.app N180 N181q
    obtain ⟨cq182, kq182, q182a, q182b, q182c⟩ := isOf hZ176 e181 E176
    obtain ⟨_, _, ⟨T182, L182, k182, n182⟩, -, X182, ⟨Lc182, hQ182, l182, y182, z182⟩, st182⟩ := X181.virtualBack hx (y := (⟨"com/example/ledgerpost/ledgerpost/Payload", "length", "()J"⟩ : MethodName)) (z := (⟨"com/example/ledgerpost/ledgerpost/Payload", "length", "()J"⟩ : MethodName)) hown176 (mvT hZ176 (hw _ (List.mem_of_getElem? (i := 48) rfl))) (mvT hZ176 (hw _ (List.mem_of_getElem? (i := 49) rfl))) (notFace_of_selects (args := #[]) (mvT hZ176 (hw _ (List.mem_of_getElem? (i := 51) rfl)))) (mvT hZ176 (hw _ (List.mem_of_getElem? (i := 51) rfl))) (mvT hZ176 (hw _ (List.mem_of_getElem? (i := 50) rfl))) (by decide) (backOf (W := 0) (rmL l Z a0 hw [] bp cc k_ba (1 : Int32) [(.int (nar .byte (own_at8 p2 (0 : Int32))))] T176.heap n0 Z179 F0176 F1176 V176) hZ176 (hw _ (List.mem_of_getElem? (i := 52) rfl)) (hw _ (List.mem_of_getElem? (i := 4) rfl)) (by decide) (by decide)) q182a q182c (g := (mkF m 90 #[.val (.int p1), .val (.int p2), .val (.int (1 : Int32)), .val (.ref ba), .val (.ref bp), .unset, .unset] [(.ref bp)])) rfl (by rw [hml]; rfl) (Steps.refl _) (argsL := []) (rest := []) (lenOf pd_6 rfl) rfl (by show 2 * 0 + _ ≤ _; exact Nat.le_of_eq rfl) (hb hby at_90) (fun _ _ => ⟨rfl, e181, (by decide : 5 + 0 ≤ _), (by decide : 31 + 0 ≤ _)⟩)
    dsimp only [Pt.U, Pt.locs, Pt.cells, Pt.slots] at X182 l182 y182 z182 st182 hQ182
    subst l182 y182 z182
    obtain ⟨rfl, N182q, e182⟩ := hQ182
    have N182 := Fr.app N181 N182q
    have lt_ba_b1 := E_ba_178.lt
    have lt_bp_b1 := E176.lt
    have lt_cc_b1 := Ec176.lt
    obtain ⟨cq183, kq183, q183a, q183b, q183c⟩ := isOf hZ176 e182 E176
    obtain ⟨_, _, ⟨T183, L183, k183, n183⟩, -, X183, ⟨Lc183, hQ183, l183, y183, z183⟩, st183⟩ := X182.virtualBack hx (y := (⟨"com/example/ledgerpost/ledgerpost/Payload", "bytes", "()[B"⟩ : MethodName)) (z := (⟨"com/example/ledgerpost/ledgerpost/Payload", "bytes", "()[B"⟩ : MethodName)) hown176 (mvT hZ176 (hw _ (List.mem_of_getElem? (i := 53) rfl))) (mvT hZ176 (hw _ (List.mem_of_getElem? (i := 54) rfl))) (notFace_of_selects (args := #[]) (mvT hZ176 (hw _ (List.mem_of_getElem? (i := 56) rfl)))) (mvT hZ176 (hw _ (List.mem_of_getElem? (i := 56) rfl))) (mvT hZ176 (hw _ (List.mem_of_getElem? (i := 55) rfl))) (by decide) (backOf (W := 0) (rmB l Z a0 hw [] bp cc k_ba (1 : Int32) [(.int (nar .byte (own_at8 p2 (0 : Int32))))] T176.heap n0 Z179 F0176 F1176 V176 Ec176 (by decide)) hZ176 (hw _ (List.mem_of_getElem? (i := 57) rfl)) (hw _ (List.mem_of_getElem? (i := 4) rfl)) (by decide) (by decide)) q183a q183c (g := (mkF m 103 #[.val (.int p1), .val (.int p2), .val (.int (1 : Int32)), .val (.ref ba), .val (.ref bp), .unset, .unset] [(.ref bp)])) rfl (by rw [hml]; rfl) (Steps.refl _) (argsL := []) (rest := []) (lenOf pd_7 rfl) rfl (by show 2 * 0 + _ ≤ _; exact Nat.le_of_eq rfl) (hb hby at_103) (fun _ _ => ⟨rfl, e182, (by decide : 5 + 1 ≤ _), (by decide : 31 + 4 ≤ _)⟩)
    dsimp only [Pt.U, Pt.locs, Pt.cells, Pt.slots] at X183 l183 y183 z183 st183 hQ183
    subst l183 y183 z183
    obtain ⟨b1, rfl, N183q, K183, V183, l183, g183⟩ := hQ183
    have N183 := Fr.app N182 N183q
    have V_ba_184 := V_ba_177.keep K183 nin0
    have E_ba_185 := E_ba_178.keep K183
    have E_bp_188 := E176.keep K183
    have F0_bp_189 := F0176.keep K183 nin0
    have F1_bp_190 := F1176.keep K183 nin0
    have V_cc_191 := V176.keep K183 nin0
    have E_cc_192 := Ec176.keep K183
    have Z193 : n0 ≤ T183.heap.size := Nat.le_trans Z179 (K183.1)
    have hk194 := Nat.le_trans (Nat.le_refl _) (K183.1)
    have g_b1 := g183
    have ne_ba_b1 : ba ≠ b1 := Nat.ne_of_lt (Nat.lt_of_lt_of_le lt_ba_b1 l183)
    have ne_bp_b1 : bp ≠ b1 := Nat.ne_of_lt (Nat.lt_of_lt_of_le lt_bp_b1 l183)
    have ne_cc_b1 : cc ≠ b1 := Nat.ne_of_lt (Nat.lt_of_lt_of_le lt_cc_b1 l183)
    obtain ⟨_, _, ⟨T195, L195, k195, n195⟩, -, X195, ⟨Lc195, hQ195, l195, y195, z195⟩, st195⟩ := Jvm.LawKit.callS X183 hx (y := (⟨"com/example/ledgerpost/ledgerpost/PayloadOfBytesPinLaw", "holds", "([BII)Z"⟩ : MethodName)) hown176 (mvT hZ176 (hw _ (List.mem_of_getElem? (i := 58) rfl))) (mvT hZ176 (hw _ (List.mem_of_getElem? (i := 59) rfl))) (mvT hZ176 (hw _ (List.mem_of_getElem? (i := 60) rfl))) (mvT hZ176 (hw _ (List.mem_of_getElem? (i := 61) rfl))) (by decide) (backOf (W := 0) (rmH1 l Z a0 hw [] b1 p2 k_ba T183.heap n0 Z193 V183) hZ176 (hw _ (List.mem_of_getElem? (i := 61) rfl)) (hw _ (List.mem_of_getElem? (i := 60) rfl)) (by decide) (by decide)) (g := (mkF m 120 #[.val (.int p1), .val (.int p2), .val (.int (1 : Int32)), .val (.ref ba), .val (.ref bp), .val (.ref b1), .unset] [(.int p2), (.int (1 : Int32)), (.ref b1)])) rfl (by rw [hml]; rfl) (argsL := [(.ref b1), (.int (1 : Int32)), (.int p2)]) (rest := []) (lenOf pd_8 rfl) rfl (by show 2 * 0 + _ ≤ _; exact Nat.le_of_eq rfl) (hb hby at_120) (fun _ _ => ⟨rfl, rfl, (by decide : 6 + 0 ≤ _), (by decide : 35 + 0 ≤ _)⟩)
    dsimp only [Pt.U, Pt.locs, Pt.cells, Pt.slots] at X195 l195 y195 z195 st195 hQ195
    subst l195 y195 z195
    obtain ⟨rfl, N195q, e195⟩ := hQ195
    have N195 := Fr.app N183 N195q
    obtain ⟨_, _, ⟨T196, L196, k196, n196⟩, -, X196, ⟨Lc196, hQ196, l196, y196, z196⟩, st196⟩ := Jvm.LawKit.callS X195 hx (y := (⟨"com/example/ledgerpost/ledgerpost/PayloadOfBytesPinLaw", "flip", "([BI)V"⟩ : MethodName)) hown176 (mvT hZ176 (hw _ (List.mem_of_getElem? (i := 62) rfl))) (mvT hZ176 (hw _ (List.mem_of_getElem? (i := 63) rfl))) (mvT hZ176 (hw _ (List.mem_of_getElem? (i := 60) rfl))) (mvT hZ176 (hw _ (List.mem_of_getElem? (i := 64) rfl))) (by decide) (backOf (W := 0) (rmF1 l Z a0 hw [] ba k_ba (nar .byte (own_at8 p2 (0 : Int32))) T183.heap n0 Z193 V_ba_184 g_ba) hZ176 (hw _ (List.mem_of_getElem? (i := 64) rfl)) (hw _ (List.mem_of_getElem? (i := 60) rfl)) (by decide) (by decide)) (g := (mkF m 130 #[.val (.int p1), .val (.int p2), .val (.int (1 : Int32)), .val (.ref ba), .val (.ref bp), .val (.ref b1), .unset] [(.int (1 : Int32)), (.ref ba)])) rfl (by rw [hml]; rfl) (argsL := [(.ref ba), (.int (1 : Int32))]) (rest := []) (lenOf pd_9 rfl) rfl (by show 2 * 0 + _ ≤ _; exact Nat.le_of_eq rfl) (hb hby at_130) (fun _ _ => ⟨rfl, e195, (by decide : 6 + 0 ≤ _), (by decide : 35 + 0 ≤ _)⟩)
    dsimp only [Pt.U, Pt.locs, Pt.cells, Pt.slots] at X196 l196 y196 z196 st196 hQ196
    subst l196 y196 z196
    obtain ⟨rfl, N196q, K196⟩ := hQ196
    have N196 := Fr.app N195 N196q
    have E_ba_197 := E_ba_185.keep K196
    have E_bp_200 := E_bp_188.keep K196
    have F0_bp_201 := F0_bp_189.keep K196 (ninS (Ne.symm ne_ba_bp) nin0)
    have F1_bp_202 := F1_bp_190.keep K196 (ninS (Ne.symm ne_ba_bp) nin0)
    have V_cc_203 := V_cc_191.keep K196 (ninS (Ne.symm ne_ba_cc) nin0)
    have E_cc_204 := E_cc_192.keep K196
    have V_b1_205 := V183.keep K196 (ninS (Ne.symm ne_ba_b1) nin0)
    have Z209 : n0 ≤ T196.heap.size := Nat.le_trans Z193 (K196.1)
    have hk210 := Nat.le_trans hk194 (K196.1)
    have ltb1 := V_b1_205.lt
    obtain ⟨_, _, ⟨T211, L211, k211, n211⟩, -, X211, ⟨Lc211, hQ211, l211, y211, z211⟩, st211⟩ := Jvm.LawKit.callS X196 hx (y := (⟨"com/example/ledgerpost/ledgerpost/PayloadOfBytesPinLaw", "flip", "([BI)V"⟩ : MethodName)) hown176 (mvT hZ176 (hw _ (List.mem_of_getElem? (i := 62) rfl))) (mvT hZ176 (hw _ (List.mem_of_getElem? (i := 63) rfl))) (mvT hZ176 (hw _ (List.mem_of_getElem? (i := 60) rfl))) (mvT hZ176 (hw _ (List.mem_of_getElem? (i := 64) rfl))) (by decide) (backOf (W := 0) (rmF1 l Z a0 hw [] b1 k_ba (nar .byte (own_at8 p2 (0 : Int32))) T196.heap n0 Z209 V_b1_205 g_b1) hZ176 (hw _ (List.mem_of_getElem? (i := 64) rfl)) (hw _ (List.mem_of_getElem? (i := 60) rfl)) (by decide) (by decide)) (g := (mkF m 136 #[.val (.int p1), .val (.int p2), .val (.int (1 : Int32)), .val (.ref ba), .val (.ref bp), .val (.ref b1), .unset] [(.int (1 : Int32)), (.ref b1)])) rfl (by rw [hml]; rfl) (argsL := [(.ref b1), (.int (1 : Int32))]) (rest := []) (lenOf pd_9 rfl) rfl (by show 2 * 0 + _ ≤ _; exact Nat.le_of_eq rfl) (hb hby at_136) (fun _ _ => ⟨rfl, rfl, (by decide : 6 + 0 ≤ _), (by decide : 35 + 0 ≤ _)⟩)
    dsimp only [Pt.U, Pt.locs, Pt.cells, Pt.slots] at X211 l211 y211 z211 st211 hQ211
    subst l211 y211 z211
    obtain ⟨rfl, N211q, K211⟩ := hQ211
    have N211 := Fr.app N196 N211q
    have E_ba_212 := E_ba_197.keep K211
    have E_bp_215 := E_bp_200.keep K211
    have F0_bp_216 := F0_bp_201.keep K211 (ninS ne_bp_b1 nin0)
    have F1_bp_217 := F1_bp_202.keep K211 (ninS ne_bp_b1 nin0)
    have V_cc_218 := V_cc_203.keep K211 (ninS ne_cc_b1 nin0)
    have E_cc_219 := E_cc_204.keep K211
    have Z223 : n0 ≤ T211.heap.size := Nat.le_trans Z209 (K211.1)
    have hk224 := Nat.le_trans hk210 (K211.1)
    have lt_ba_b2 := E_ba_212.lt
    have lt_bp_b2 := E_bp_215.lt
    have lt_cc_b2 := E_cc_219.lt
    have lt_b1_b2 := Nat.lt_of_lt_of_le ltb1 K211.1
    obtain ⟨cq225, kq225, q225a, q225b, q225c⟩ := isOf hZ176 rfl E_bp_215
    obtain ⟨_, _, ⟨T225, L225, k225, n225⟩, -, X225, ⟨Lc225, hQ225, l225, y225, z225⟩, st225⟩ := X211.virtualBack hx (y := (⟨"com/example/ledgerpost/ledgerpost/Payload", "bytes", "()[B"⟩ : MethodName)) (z := (⟨"com/example/ledgerpost/ledgerpost/Payload", "bytes", "()[B"⟩ : MethodName)) hown176 (mvT hZ176 (hw _ (List.mem_of_getElem? (i := 53) rfl))) (mvT hZ176 (hw _ (List.mem_of_getElem? (i := 54) rfl))) (notFace_of_selects (args := #[]) (mvT hZ176 (hw _ (List.mem_of_getElem? (i := 56) rfl)))) (mvT hZ176 (hw _ (List.mem_of_getElem? (i := 56) rfl))) (mvT hZ176 (hw _ (List.mem_of_getElem? (i := 55) rfl))) (by decide) (backOf (W := 0) (rmB l Z a0 hw [] bp cc k_ba (1 : Int32) [(.int (nar .byte (own_at8 p2 (0 : Int32))))] T211.heap n0 Z223 F0_bp_216 F1_bp_217 V_cc_218 E_cc_219 (by decide)) hZ176 (hw _ (List.mem_of_getElem? (i := 57) rfl)) (hw _ (List.mem_of_getElem? (i := 4) rfl)) (by decide) (by decide)) q225a q225c (g := (mkF m 141 #[.val (.int p1), .val (.int p2), .val (.int (1 : Int32)), .val (.ref ba), .val (.ref bp), .val (.ref b1), .unset] [(.ref bp)])) rfl (by rw [hml]; rfl) (Steps.refl _) (argsL := []) (rest := []) (lenOf pd_7 rfl) rfl (by show 2 * 0 + _ ≤ _; exact Nat.le_of_eq rfl) (hb hby at_141) (fun _ _ => ⟨rfl, rfl, (by decide : 6 + 1 ≤ _), (by decide : 35 + 4 ≤ _)⟩)
    dsimp only [Pt.U, Pt.locs, Pt.cells, Pt.slots] at X225 l225 y225 z225 st225 hQ225
    subst l225 y225 z225
    obtain ⟨b2, rfl, N225q, K225, V225, l225, g225⟩ := hQ225
    have N225 := Fr.app N211 N225q
    have E_ba_226 := E_ba_212.keep K225
    have E_bp_229 := E_bp_215.keep K225
    have F0_bp_230 := F0_bp_216.keep K225 nin0
    have F1_bp_231 := F1_bp_217.keep K225 nin0
    have V_cc_232 := V_cc_218.keep K225 nin0
    have E_cc_233 := E_cc_219.keep K225
    have Z237 : n0 ≤ T225.heap.size := Nat.le_trans Z223 (K225.1)
    have hk238 := Nat.le_trans hk224 (K225.1)
    have ne_ba_b2 : ba ≠ b2 := Nat.ne_of_lt (Nat.lt_of_lt_of_le lt_ba_b2 l225)
    have ne_b1_b2 : b1 ≠ b2 := Nat.ne_of_lt (Nat.lt_of_lt_of_le lt_b1_b2 l225)
    obtain ⟨_, _, ⟨T239, L239, k239, n239⟩, -, X239, ⟨Lc239, hQ239, l239, y239, z239⟩, st239⟩ := Jvm.LawKit.callS X225 hx (y := (⟨"com/example/ledgerpost/ledgerpost/PayloadOfBytesPinLaw", "holds", "([BII)Z"⟩ : MethodName)) hown176 (mvT hZ176 (hw _ (List.mem_of_getElem? (i := 58) rfl))) (mvT hZ176 (hw _ (List.mem_of_getElem? (i := 59) rfl))) (mvT hZ176 (hw _ (List.mem_of_getElem? (i := 60) rfl))) (mvT hZ176 (hw _ (List.mem_of_getElem? (i := 61) rfl))) (by decide) (backOf (W := 0) (rmH1 l Z a0 hw [] b2 p2 k_ba T225.heap n0 Z237 V225) hZ176 (hw _ (List.mem_of_getElem? (i := 61) rfl)) (hw _ (List.mem_of_getElem? (i := 60) rfl)) (by decide) (by decide)) (g := (mkF m 165 #[.val (.int p1), .val (.int p2), .val (.int (1 : Int32)), .val (.ref ba), .val (.ref bp), .val (.ref b1), .val (.ref b2)] [(.int p2), (.int (1 : Int32)), (.ref b2)])) rfl (by rw [hml]; rfl) (argsL := [(.ref b2), (.int (1 : Int32)), (.int p2)]) (rest := []) (lenOf pd_8 rfl) rfl (by show 2 * 0 + _ ≤ _; exact Nat.le_of_eq rfl) (hb hby at_165) (fun _ _ => ⟨rfl, rfl, (by decide : 7 + 0 ≤ _), (by decide : 39 + 0 ≤ _)⟩)
    dsimp only [Pt.U, Pt.locs, Pt.cells, Pt.slots] at X239 l239 y239 z239 st239 hQ239
    subst l239 y239 z239
    obtain ⟨rfl, N239q, e239⟩ := hQ239
    have N239 := Fr.app N225 N239q
    have pre240 : ∀ t_, Steps p.tables e below (T239.setTop (mkF m 168 #[.val (.int p1), .val (.int p2), .val (.int (1 : Int32)), .val (.ref ba), .val (.ref bp), .val (.ref b1), .val (.ref b2)] [(.int (1 : Int32))])) t_ → Steps p.tables e below (s₁.setTop (entryFrame m #[(.int p1), (.int p2)] maxLocals)) t_ := fun t_ k_ => pre101 _ (by
      show Steps p.tables e below (s₁.setTop (mkF m 7 #[.val (.int p1), .val (.int p2), .val (.int (1 : Int32)), .unset, .unset, .unset, .unset] [])) _
      refine XS.iloadN X0.here hx rfl (hb hby at_7) rfl ?_
      show Steps p.tables e below (s₁.setTop (mkF m 8 #[.val (.int p1), .val (.int p2), .val (.int (1 : Int32)), .unset, .unset, .unset, .unset] [(.int (1 : Int32))])) _
      refine st169 _ ?_
      show Steps p.tables e below (T169.setTop (mkF m 10 #[.val (.int p1), .val (.int p2), .val (.int (1 : Int32)), .unset, .unset, .unset, .unset] [(.ref ba)])) _
      refine XS.astoreN X169.here hx rfl (hb hby at_10) rfl rfl (l' := #[.val (.int p1), .val (.int p2), .val (.int (1 : Int32)), .val (.ref ba), .unset, .unset, .unset]) rfl ?_
      show Steps p.tables e below (T169.setTop (mkF m 11 #[.val (.int p1), .val (.int p2), .val (.int (1 : Int32)), .val (.ref ba), .unset, .unset, .unset] [])) _
      refine XS.iloadN X169.here hx rfl (hb hby at_11) rfl ?_
      show Steps p.tables e below (T169.setTop (mkF m 12 #[.val (.int p1), .val (.int p2), .val (.int (1 : Int32)), .val (.ref ba), .unset, .unset, .unset] [(.int (1 : Int32))])) _
      refine XS.ifNo X169.here hx rfl (hb hby at_12) rfl ((if0 _ _).trans (tlt (by decide)).2.2.2) ?_
      show Steps p.tables e below (T169.setTop (mkF m 15 #[.val (.int p1), .val (.int p2), .val (.int (1 : Int32)), .val (.ref ba), .unset, .unset, .unset] [])) _
      refine XS.aloadN X169.here hx rfl (hb hby at_15) rfl rfl ?_
      show Steps p.tables e below (T169.setTop (mkF m 16 #[.val (.int p1), .val (.int p2), .val (.int (1 : Int32)), .val (.ref ba), .unset, .unset, .unset] [(.ref ba)])) _
      refine XS.iconst X169.here hx rfl (hb hby at_16) ?_
      show Steps p.tables e below (T169.setTop (mkF m 17 #[.val (.int p1), .val (.int p2), .val (.int (1 : Int32)), .val (.ref ba), .unset, .unset, .unset] [(.int (0 : Int32)), (.ref ba)])) _
      refine XS.iloadN X169.here hx rfl (hb hby at_17) rfl ?_
      show Steps p.tables e below (T169.setTop (mkF m 18 #[.val (.int p1), .val (.int p2), .val (.int (1 : Int32)), .val (.ref ba), .unset, .unset, .unset] [(.int p2), (.int (0 : Int32)), (.ref ba)])) _
      refine XS.iconst X169.here hx rfl (hb hby at_18) ?_
      show Steps p.tables e below (T169.setTop (mkF m 19 #[.val (.int p1), .val (.int p2), .val (.int (1 : Int32)), .val (.ref ba), .unset, .unset, .unset] [(.int (0 : Int32)), (.int p2), (.int (0 : Int32)), (.ref ba)])) _
      refine st171 _ ?_
      show Steps p.tables e below (T171.setTop (mkF m 22 #[.val (.int p1), .val (.int p2), .val (.int (1 : Int32)), .val (.ref ba), .unset, .unset, .unset] [(.int (own_at8 p2 (0 : Int32))), (.int (0 : Int32)), (.ref ba)])) _
      refine st173 _ ?_
      show Steps p.tables e below (T173.setTop (mkF m 23 #[.val (.int p1), .val (.int p2), .val (.int (1 : Int32)), .val (.ref ba), .unset, .unset, .unset] [])) _
      refine XS.iloadN X173.here hx rfl (hb hby at_23) rfl ?_
      show Steps p.tables e below (T173.setTop (mkF m 24 #[.val (.int p1), .val (.int p2), .val (.int (1 : Int32)), .val (.ref ba), .unset, .unset, .unset] [(.int (1 : Int32))])) _
      refine XS.iconst X173.here hx rfl (hb hby at_24) ?_
      show Steps p.tables e below (T173.setTop (mkF m 25 #[.val (.int p1), .val (.int p2), .val (.int (1 : Int32)), .val (.ref ba), .unset, .unset, .unset] [(.int (1 : Int32)), (.int (1 : Int32))])) _
      refine XS.icmpYes X173.here hx rfl (pc0 := 25) (pc' := 36) rfl (hb hby at_25) rfl (flt (by decide)).2.2.2 (by decide) (by decide) ?_
      show Steps p.tables e below (T173.setTop (mkF m 36 #[.val (.int p1), .val (.int p2), .val (.int (1 : Int32)), .val (.ref ba), .unset, .unset, .unset] [])) _
      refine XS.iloadN X173.here hx rfl (hb hby at_36) rfl ?_
      show Steps p.tables e below (T173.setTop (mkF m 37 #[.val (.int p1), .val (.int p2), .val (.int (1 : Int32)), .val (.ref ba), .unset, .unset, .unset] [(.int (1 : Int32))])) _
      refine XS.iconst X173.here hx rfl (hb hby at_37) ?_
      show Steps p.tables e below (T173.setTop (mkF m 38 #[.val (.int p1), .val (.int p2), .val (.int (1 : Int32)), .val (.ref ba), .unset, .unset, .unset] [(.int (2 : Int32)), (.int (1 : Int32))])) _
      refine XS.icmpYes X173.here hx rfl (pc0 := 38) (pc' := 49) rfl (hb hby at_38) rfl (flt (by decide)).2.2.2 (by decide) (by decide) ?_
      show Steps p.tables e below (T173.setTop (mkF m 49 #[.val (.int p1), .val (.int p2), .val (.int (1 : Int32)), .val (.ref ba), .unset, .unset, .unset] [])) _
      refine XS.iloadN X173.here hx rfl (hb hby at_49) rfl ?_
      show Steps p.tables e below (T173.setTop (mkF m 50 #[.val (.int p1), .val (.int p2), .val (.int (1 : Int32)), .val (.ref ba), .unset, .unset, .unset] [(.int (1 : Int32))])) _
      refine XS.iconst X173.here hx rfl (hb hby at_50) ?_
      show Steps p.tables e below (T173.setTop (mkF m 51 #[.val (.int p1), .val (.int p2), .val (.int (1 : Int32)), .val (.ref ba), .unset, .unset, .unset] [(.int (3 : Int32)), (.int (1 : Int32))])) _
      refine XS.icmpYes X173.here hx rfl (pc0 := 51) (pc' := 62) rfl (hb hby at_51) rfl (flt (by decide)).2.2.2 (by decide) (by decide) ?_
      show Steps p.tables e below (T173.setTop (mkF m 62 #[.val (.int p1), .val (.int p2), .val (.int (1 : Int32)), .val (.ref ba), .unset, .unset, .unset] [])) _
      refine XS.aloadN X173.here hx rfl (hb hby at_62) rfl rfl ?_
      show Steps p.tables e below (T173.setTop (mkF m 63 #[.val (.int p1), .val (.int p2), .val (.int (1 : Int32)), .val (.ref ba), .unset, .unset, .unset] [(.ref ba)])) _
      refine st176.trans ?_
      show Steps p.tables e below (T176.setTop (mkF m 66 #[.val (.int p1), .val (.int p2), .val (.int (1 : Int32)), .val (.ref ba), .unset, .unset, .unset] [(.ref bp)])) _
      refine XS.astore X176'.here hx rfl (hb hby at_66) rfl rfl (l' := #[.val (.int p1), .val (.int p2), .val (.int (1 : Int32)), .val (.ref ba), .val (.ref bp), .unset, .unset]) rfl ?_
      show Steps p.tables e below (T176.setTop (mkF m 68 #[.val (.int p1), .val (.int p2), .val (.int (1 : Int32)), .val (.ref ba), .val (.ref bp), .unset, .unset] [])) _
      refine XS.aload X176'.here hx rfl (hb hby at_68) rfl rfl ?_
      show Steps p.tables e below (T176.setTop (mkF m 70 #[.val (.int p1), .val (.int p2), .val (.int (1 : Int32)), .val (.ref ba), .val (.ref bp), .unset, .unset] [(.ref bp)])) _
      refine st180.trans ?_
      show Steps p.tables e below (T180.setTop (mkF m 73 #[.val (.int p1), .val (.int p2), .val (.int (1 : Int32)), .val (.ref ba), .val (.ref bp), .unset, .unset] [(.int (0 : Int32))])) _
      refine XS.ifYes X180.here hx rfl (pc0 := 73) (pc' := 78) rfl (hb hby at_73) rfl ((if0 _ _).trans (teq (rfl : (0 : Int32) = 0)).1) (by decide) (by decide) ?_
      show Steps p.tables e below (T180.setTop (mkF m 78 #[.val (.int p1), .val (.int p2), .val (.int (1 : Int32)), .val (.ref ba), .val (.ref bp), .unset, .unset] [])) _
      refine XS.aload X180.here hx rfl (hb hby at_78) rfl rfl ?_
      show Steps p.tables e below (T180.setTop (mkF m 80 #[.val (.int p1), .val (.int p2), .val (.int (1 : Int32)), .val (.ref ba), .val (.ref bp), .unset, .unset] [(.ref bp)])) _
      refine st181.trans ?_
      show Steps p.tables e below (T181.setTop (mkF m 83 #[.val (.int p1), .val (.int p2), .val (.int (1 : Int32)), .val (.ref ba), .val (.ref bp), .unset, .unset] [.null])) _
      refine XS.ifnullYes X181.here hx rfl (pc0 := 83) (pc' := 88) rfl (hb hby at_83) rfl (by decide) (by decide) ?_
      show Steps p.tables e below (T181.setTop (mkF m 88 #[.val (.int p1), .val (.int p2), .val (.int (1 : Int32)), .val (.ref ba), .val (.ref bp), .unset, .unset] [])) _
      refine XS.aload X181.here hx rfl (hb hby at_88) rfl rfl ?_
      show Steps p.tables e below (T181.setTop (mkF m 90 #[.val (.int p1), .val (.int p2), .val (.int (1 : Int32)), .val (.ref ba), .val (.ref bp), .unset, .unset] [(.ref bp)])) _
      refine st182.trans ?_
      show Steps p.tables e below (T182.setTop (mkF m 93 #[.val (.int p1), .val (.int p2), .val (.int (1 : Int32)), .val (.ref ba), .val (.ref bp), .unset, .unset] [(.long ((1 : Int32).toInt64))])) _
      refine XS.iloadN X182.here hx rfl (hb hby at_93) rfl ?_
      show Steps p.tables e below (T182.setTop (mkF m 94 #[.val (.int p1), .val (.int p2), .val (.int (1 : Int32)), .val (.ref ba), .val (.ref bp), .unset, .unset] [(.int (1 : Int32)), (.long ((1 : Int32).toInt64))])) _
      refine XS.i2l X182.here hx rfl (hb hby at_94) rfl ?_
      show Steps p.tables e below (T182.setTop (mkF m 95 #[.val (.int p1), .val (.int p2), .val (.int (1 : Int32)), .val (.ref ba), .val (.ref bp), .unset, .unset] [(.long ((1 : Int32).toInt64)), (.long ((1 : Int32).toInt64))])) _
      refine XS.lcmp X182.here hx rfl (hb hby at_95) rfl ?_
      show Steps p.tables e below (T182.setTop (mkF m 96 #[.val (.int p1), .val (.int p2), .val (.int (1 : Int32)), .val (.ref ba), .val (.ref bp), .unset, .unset] [(.int (lcmpW ((1 : Int32).toInt64) ((1 : Int32).toInt64)))])) _
      refine XS.ifYes X182.here hx rfl (pc0 := 96) (pc' := 101) rfl (hb hby at_96) rfl ((if0 _ _).trans (teq ((lw_eq _ _).mpr rfl)).1) (by decide) (by decide) ?_
      show Steps p.tables e below (T182.setTop (mkF m 101 #[.val (.int p1), .val (.int p2), .val (.int (1 : Int32)), .val (.ref ba), .val (.ref bp), .unset, .unset] [])) _
      refine XS.aload X182.here hx rfl (hb hby at_101) rfl rfl ?_
      show Steps p.tables e below (T182.setTop (mkF m 103 #[.val (.int p1), .val (.int p2), .val (.int (1 : Int32)), .val (.ref ba), .val (.ref bp), .unset, .unset] [(.ref bp)])) _
      refine st183.trans ?_
      show Steps p.tables e below (T183.setTop (mkF m 106 #[.val (.int p1), .val (.int p2), .val (.int (1 : Int32)), .val (.ref ba), .val (.ref bp), .unset, .unset] [(.ref b1)])) _
      refine XS.astore X183.here hx rfl (hb hby at_106) rfl rfl (l' := #[.val (.int p1), .val (.int p2), .val (.int (1 : Int32)), .val (.ref ba), .val (.ref bp), .val (.ref b1), .unset]) rfl ?_
      show Steps p.tables e below (T183.setTop (mkF m 108 #[.val (.int p1), .val (.int p2), .val (.int (1 : Int32)), .val (.ref ba), .val (.ref bp), .val (.ref b1), .unset] [])) _
      refine XS.aload X183.here hx rfl (hb hby at_108) rfl rfl ?_
      show Steps p.tables e below (T183.setTop (mkF m 110 #[.val (.int p1), .val (.int p2), .val (.int (1 : Int32)), .val (.ref ba), .val (.ref bp), .val (.ref b1), .unset] [(.ref b1)])) _
      refine XS.aloadN X183.here hx rfl (hb hby at_110) rfl rfl ?_
      show Steps p.tables e below (T183.setTop (mkF m 111 #[.val (.int p1), .val (.int p2), .val (.int (1 : Int32)), .val (.ref ba), .val (.ref bp), .val (.ref b1), .unset] [(.ref ba), (.ref b1)])) _
      refine Jvm.RoadKit.acmp (g := (mkF m 111 #[.val (.int p1), .val (.int p2), .val (.int (1 : Int32)), .val (.ref ba), .val (.ref bp), .val (.ref b1), .unset] [(.ref ba), (.ref b1)])) X183 hx rfl rfl rfl (pc0 := 111) (pc' := 116) (same := false) rfl (hb hby at_111) rfl (decide_eq_false fun q => (Ne.symm ne_ba_b1) (Value.ref.inj q)) (by decide) (by decide) ?_
      show Steps p.tables e below (T183.setTop (mkF m 116 #[.val (.int p1), .val (.int p2), .val (.int (1 : Int32)), .val (.ref ba), .val (.ref bp), .val (.ref b1), .unset] [])) _
      refine XS.aload X183.here hx rfl (hb hby at_116) rfl rfl ?_
      show Steps p.tables e below (T183.setTop (mkF m 118 #[.val (.int p1), .val (.int p2), .val (.int (1 : Int32)), .val (.ref ba), .val (.ref bp), .val (.ref b1), .unset] [(.ref b1)])) _
      refine XS.iloadN X183.here hx rfl (hb hby at_118) rfl ?_
      show Steps p.tables e below (T183.setTop (mkF m 119 #[.val (.int p1), .val (.int p2), .val (.int (1 : Int32)), .val (.ref ba), .val (.ref bp), .val (.ref b1), .unset] [(.int (1 : Int32)), (.ref b1)])) _
      refine XS.iloadN X183.here hx rfl (hb hby at_119) rfl ?_
      show Steps p.tables e below (T183.setTop (mkF m 120 #[.val (.int p1), .val (.int p2), .val (.int (1 : Int32)), .val (.ref ba), .val (.ref bp), .val (.ref b1), .unset] [(.int p2), (.int (1 : Int32)), (.ref b1)])) _
      refine st195 _ ?_
      show Steps p.tables e below (T195.setTop (mkF m 123 #[.val (.int p1), .val (.int p2), .val (.int (1 : Int32)), .val (.ref ba), .val (.ref bp), .val (.ref b1), .unset] [(.int (1 : Int32))])) _
      refine XS.ifYes X195.here hx rfl (pc0 := 123) (pc' := 128) rfl (hb hby at_123) rfl ((if0 _ _).trans (feq (by decide : ¬ (1 : Int32) = 0)).2) (by decide) (by decide) ?_
      show Steps p.tables e below (T195.setTop (mkF m 128 #[.val (.int p1), .val (.int p2), .val (.int (1 : Int32)), .val (.ref ba), .val (.ref bp), .val (.ref b1), .unset] [])) _
      refine XS.aloadN X195.here hx rfl (hb hby at_128) rfl rfl ?_
      show Steps p.tables e below (T195.setTop (mkF m 129 #[.val (.int p1), .val (.int p2), .val (.int (1 : Int32)), .val (.ref ba), .val (.ref bp), .val (.ref b1), .unset] [(.ref ba)])) _
      refine XS.iloadN X195.here hx rfl (hb hby at_129) rfl ?_
      show Steps p.tables e below (T195.setTop (mkF m 130 #[.val (.int p1), .val (.int p2), .val (.int (1 : Int32)), .val (.ref ba), .val (.ref bp), .val (.ref b1), .unset] [(.int (1 : Int32)), (.ref ba)])) _
      refine st196 _ ?_
      show Steps p.tables e below (T196.setTop (mkF m 133 #[.val (.int p1), .val (.int p2), .val (.int (1 : Int32)), .val (.ref ba), .val (.ref bp), .val (.ref b1), .unset] [])) _
      refine XS.aload X196.here hx rfl (hb hby at_133) rfl rfl ?_
      show Steps p.tables e below (T196.setTop (mkF m 135 #[.val (.int p1), .val (.int p2), .val (.int (1 : Int32)), .val (.ref ba), .val (.ref bp), .val (.ref b1), .unset] [(.ref b1)])) _
      refine XS.iloadN X196.here hx rfl (hb hby at_135) rfl ?_
      show Steps p.tables e below (T196.setTop (mkF m 136 #[.val (.int p1), .val (.int p2), .val (.int (1 : Int32)), .val (.ref ba), .val (.ref bp), .val (.ref b1), .unset] [(.int (1 : Int32)), (.ref b1)])) _
      refine st211 _ ?_
      show Steps p.tables e below (T211.setTop (mkF m 139 #[.val (.int p1), .val (.int p2), .val (.int (1 : Int32)), .val (.ref ba), .val (.ref bp), .val (.ref b1), .unset] [])) _
      refine XS.aload X211.here hx rfl (hb hby at_139) rfl rfl ?_
      show Steps p.tables e below (T211.setTop (mkF m 141 #[.val (.int p1), .val (.int p2), .val (.int (1 : Int32)), .val (.ref ba), .val (.ref bp), .val (.ref b1), .unset] [(.ref bp)])) _
      refine st225.trans ?_
      show Steps p.tables e below (T225.setTop (mkF m 144 #[.val (.int p1), .val (.int p2), .val (.int (1 : Int32)), .val (.ref ba), .val (.ref bp), .val (.ref b1), .unset] [(.ref b2)])) _
      refine XS.astore X225.here hx rfl (hb hby at_144) rfl rfl (l' := #[.val (.int p1), .val (.int p2), .val (.int (1 : Int32)), .val (.ref ba), .val (.ref bp), .val (.ref b1), .val (.ref b2)]) rfl ?_
      show Steps p.tables e below (T225.setTop (mkF m 146 #[.val (.int p1), .val (.int p2), .val (.int (1 : Int32)), .val (.ref ba), .val (.ref bp), .val (.ref b1), .val (.ref b2)] [])) _
      refine XS.aload X225.here hx rfl (hb hby at_146) rfl rfl ?_
      show Steps p.tables e below (T225.setTop (mkF m 148 #[.val (.int p1), .val (.int p2), .val (.int (1 : Int32)), .val (.ref ba), .val (.ref bp), .val (.ref b1), .val (.ref b2)] [(.ref b2)])) _
      refine XS.aload X225.here hx rfl (hb hby at_148) rfl rfl ?_
      show Steps p.tables e below (T225.setTop (mkF m 150 #[.val (.int p1), .val (.int p2), .val (.int (1 : Int32)), .val (.ref ba), .val (.ref bp), .val (.ref b1), .val (.ref b2)] [(.ref b1), (.ref b2)])) _
      refine Jvm.RoadKit.acmp (g := (mkF m 150 #[.val (.int p1), .val (.int p2), .val (.int (1 : Int32)), .val (.ref ba), .val (.ref bp), .val (.ref b1), .val (.ref b2)] [(.ref b1), (.ref b2)])) X225 hx rfl rfl rfl (pc0 := 150) (pc' := 153) (same := false) rfl (hb hby at_150) rfl (decide_eq_false fun q => ne_b1_b2.symm (Value.ref.inj q)) (by decide) (by decide) ?_
      show Steps p.tables e below (T225.setTop (mkF m 153 #[.val (.int p1), .val (.int p2), .val (.int (1 : Int32)), .val (.ref ba), .val (.ref bp), .val (.ref b1), .val (.ref b2)] [])) _
      refine XS.aload X225.here hx rfl (hb hby at_153) rfl rfl ?_
      show Steps p.tables e below (T225.setTop (mkF m 155 #[.val (.int p1), .val (.int p2), .val (.int (1 : Int32)), .val (.ref ba), .val (.ref bp), .val (.ref b1), .val (.ref b2)] [(.ref b2)])) _
      refine XS.aloadN X225.here hx rfl (hb hby at_155) rfl rfl ?_
      show Steps p.tables e below (T225.setTop (mkF m 156 #[.val (.int p1), .val (.int p2), .val (.int (1 : Int32)), .val (.ref ba), .val (.ref bp), .val (.ref b1), .val (.ref b2)] [(.ref ba), (.ref b2)])) _
      refine Jvm.RoadKit.acmp (g := (mkF m 156 #[.val (.int p1), .val (.int p2), .val (.int (1 : Int32)), .val (.ref ba), .val (.ref bp), .val (.ref b1), .val (.ref b2)] [(.ref ba), (.ref b2)])) X225 hx rfl rfl rfl (pc0 := 156) (pc' := 161) (same := false) rfl (hb hby at_156) rfl (decide_eq_false fun q => ne_ba_b2.symm (Value.ref.inj q)) (by decide) (by decide) ?_
      show Steps p.tables e below (T225.setTop (mkF m 161 #[.val (.int p1), .val (.int p2), .val (.int (1 : Int32)), .val (.ref ba), .val (.ref bp), .val (.ref b1), .val (.ref b2)] [])) _
      refine XS.aload X225.here hx rfl (hb hby at_161) rfl rfl ?_
      show Steps p.tables e below (T225.setTop (mkF m 163 #[.val (.int p1), .val (.int p2), .val (.int (1 : Int32)), .val (.ref ba), .val (.ref bp), .val (.ref b1), .val (.ref b2)] [(.ref b2)])) _
      refine XS.iloadN X225.here hx rfl (hb hby at_163) rfl ?_
      show Steps p.tables e below (T225.setTop (mkF m 164 #[.val (.int p1), .val (.int p2), .val (.int (1 : Int32)), .val (.ref ba), .val (.ref bp), .val (.ref b1), .val (.ref b2)] [(.int (1 : Int32)), (.ref b2)])) _
      refine XS.iloadN X225.here hx rfl (hb hby at_164) rfl ?_
      show Steps p.tables e below (T225.setTop (mkF m 165 #[.val (.int p1), .val (.int p2), .val (.int (1 : Int32)), .val (.ref ba), .val (.ref bp), .val (.ref b1), .val (.ref b2)] [(.int p2), (.int (1 : Int32)), (.ref b2)])) _
      refine st239 _ ?_
      exact k_)
    obtain ⟨fs, hr, hrun, hended, hWr, hW1, hW2, hsame⟩ := Jvm.Stand.leaveW (s := s) X239 hS176' (by rw [e239]; exact hk238) (v := some (.int (1 : Int32))) (fun h => by rw [Bd.returns] at h; cases h)
    refine ⟨_, _, pre240 _ ?_, hrun, hended, _, _, rfl, ?_, hWr, hW1, hW2, hsame.mono (by decide) (by decide)⟩
    · show Steps p.tables e below (T239.setTop (mkF m 168 #[.val (.int p1), .val (.int p2), .val (.int (1 : Int32)), .val (.ref ba), .val (.ref bp), .val (.ref b1), .val (.ref b2)] [(.int (1 : Int32))])) _
      exact retN X239 hx (t := .boolean) Bd.returns (by simp) (hb hby at_168) hr
    · show Qrm0 Z p1 p2 h0 n0 _ T239.heap _
      rw [e239]
      exact ⟨rfl, N239⟩
  · skip
    subst q
    obtain ⟨T241, h241, k_ba, X241, e241, Ext_ba, A_ba, E_ba, st241⟩ := newPE X0 hx hZ (hw _ (List.mem_of_getElem? (i := 1) rfl)) e0 (g := (mkF m 8 #[.val (.int p1), .val (.int p2), .val (.int (2 : Int32)), .unset, .unset, .unset, .unset] [(.int (2 : Int32))])) rfl (hb hby at_8) rfl (by decide) (cap := 2) (by decide) (by decide) (by decide) (by decide) (ad := "[B") (by decide)
    obtain ⟨ba, eq_ba⟩ : ∃ z, z = h0.size := ⟨_, rfl⟩
    rw [← eq_ba] at A_ba E_ba st241
    have g_ba : n0 ≤ ba := Nat.le_trans Z0 (Nat.le_of_eq eq_ba.symm)
    have Z242 : n0 ≤ h241.size := Nat.le_trans Z0 (Ext_ba.1)
    have V_ba : Arv Z h241 ba k_ba .byte (2 : Int32) [(.int (0 : Int32)), (.int (0 : Int32))] (.int (0 : Int32)) := (Arv.new A_ba (by decide)).pad (pad_rep [] (.int (0 : Int32)) 2)
    obtain ⟨_, _, ⟨T243, L243, k243, n243⟩, -, X243, ⟨Lc243, hQ243, l243, y243, z243⟩, st243⟩ := Jvm.LawKit.callS X241 hx (y := (⟨"com/example/ledgerpost/ledgerpost/PayloadOfBytesPinLaw", "at", "(II)B"⟩ : MethodName)) hown (mvT hZ (hw _ (List.mem_of_getElem? (i := 65) rfl))) (mvT hZ (hw _ (List.mem_of_getElem? (i := 66) rfl))) (mvT hZ (hw _ (List.mem_of_getElem? (i := 60) rfl))) (mvT hZ (hw _ (List.mem_of_getElem? (i := 67) rfl))) (by decide) (backOf (W := 2) (rmA l Z a0 hw [] p2 (0 : Int32) h241 n0 Z242 ) hZ (hw _ (List.mem_of_getElem? (i := 67) rfl)) (hw _ (List.mem_of_getElem? (i := 60) rfl)) (by decide) (by decide)) (g := (mkF m 19 #[.val (.int p1), .val (.int p2), .val (.int (2 : Int32)), .val (.ref ba), .unset, .unset, .unset] [(.int (0 : Int32)), (.int p2), (.int (0 : Int32)), (.ref ba)])) rfl (by rw [hml]; rfl) (argsL := [(.int p2), (.int (0 : Int32))]) (rest := [(.int (0 : Int32)), (.ref ba)]) (lenOf pd_2 rfl) rfl (by show 2 * 0 + _ ≤ _; exact Nat.le_of_eq rfl) (hb hby at_19) (fun _ _ => ⟨rfl, e241, (by decide : 1 + 0 ≤ _), (by decide : 2 + 0 ≤ _)⟩)
    dsimp only [Pt.U, Pt.locs, Pt.cells, Pt.slots] at X243 l243 y243 z243 st243 hQ243
    subst l243 y243 z243
    obtain ⟨rfl, N243q, e243⟩ := hQ243
    have N243 := Fr.app N0 N243q
    obtain ⟨cl244, Ar244, qk244, Sz244, Ng244, Hs244, Gs244⟩ := V_ba
    have hin244 : ¬ ((0 : Int32) < 0 ∨ cl244.slots.size ≤ ((0 : Int32)).toNatClampNeg) := inb_of Sz244 ⟨by decide, by decide⟩
    obtain ⟨T245, h245, X245, e245, W245, st245⟩ := stB X243 hx hZ e243 Ar244 (j := (0 : Int32)) hin244 (g := (mkF m 22 #[.val (.int p1), .val (.int p2), .val (.int (2 : Int32)), .val (.ref ba), .unset, .unset, .unset] [(.int (own_at8 p2 (0 : Int32))), (.int (0 : Int32)), (.ref ba)])) rfl rfl (hb hby at_22)
    have E_ba_246 := E_ba.wr W245
    have V_ba_245 : Arv Z h245 ba k_ba .byte (2 : Int32) [(.int (nar .byte (own_at8 p2 (0 : Int32)))), (.int (0 : Int32))] (.int (0 : Int32)) := Arv.set Ar244 qk244 Sz244 Ng244 Hs244 Gs244 (fits_nar_byte _) W245 0 rfl (Nat.le_of_ble_eq_true rfl)
    have N245 := Fr.snoc X245 N243 g_ba
    have Z247 : n0 ≤ h245.size := Nat.le_trans Z242 ((Keep.of_wr W245).1)
    obtain ⟨_, _, ⟨T248, L248, k248, n248⟩, -, X248, ⟨Lc248, hQ248, l248, y248, z248⟩, st248⟩ := Jvm.LawKit.callS X245 hx (y := (⟨"com/example/ledgerpost/ledgerpost/PayloadOfBytesPinLaw", "at", "(II)B"⟩ : MethodName)) hown (mvT hZ (hw _ (List.mem_of_getElem? (i := 65) rfl))) (mvT hZ (hw _ (List.mem_of_getElem? (i := 66) rfl))) (mvT hZ (hw _ (List.mem_of_getElem? (i := 60) rfl))) (mvT hZ (hw _ (List.mem_of_getElem? (i := 67) rfl))) (by decide) (backOf (W := 2) (rmA l Z a0 hw [] p2 (1 : Int32) h245 n0 Z247 ) hZ (hw _ (List.mem_of_getElem? (i := 67) rfl)) (hw _ (List.mem_of_getElem? (i := 60) rfl)) (by decide) (by decide)) (g := (mkF m 32 #[.val (.int p1), .val (.int p2), .val (.int (2 : Int32)), .val (.ref ba), .unset, .unset, .unset] [(.int (1 : Int32)), (.int p2), (.int (1 : Int32)), (.ref ba)])) rfl (by rw [hml]; rfl) (argsL := [(.int p2), (.int (1 : Int32))]) (rest := [(.int (1 : Int32)), (.ref ba)]) (lenOf pd_2 rfl) rfl (by show 2 * 0 + _ ≤ _; exact Nat.le_of_eq rfl) (hb hby at_32) (fun _ _ => ⟨rfl, e245, (by decide : 1 + 0 ≤ _), (by decide : 2 + 0 ≤ _)⟩)
    dsimp only [Pt.U, Pt.locs, Pt.cells, Pt.slots] at X248 l248 y248 z248 st248 hQ248
    subst l248 y248 z248
    obtain ⟨rfl, N248q, e248⟩ := hQ248
    have N248 := Fr.app N245 N248q
    obtain ⟨cl249, Ar249, qk249, Sz249, Ng249, Hs249, Gs249⟩ := V_ba_245
    have hin249 : ¬ ((1 : Int32) < 0 ∨ cl249.slots.size ≤ ((1 : Int32)).toNatClampNeg) := inb_of Sz249 ⟨by decide, by decide⟩
    obtain ⟨T250, h250, X250, e250, W250, st250⟩ := stB X248 hx hZ e248 Ar249 (j := (1 : Int32)) hin249 (g := (mkF m 35 #[.val (.int p1), .val (.int p2), .val (.int (2 : Int32)), .val (.ref ba), .unset, .unset, .unset] [(.int (own_at8 p2 (1 : Int32))), (.int (1 : Int32)), (.ref ba)])) rfl rfl (hb hby at_35)
    have E_ba_251 := E_ba_246.wr W250
    have V_ba_250 : Arv Z h250 ba k_ba .byte (2 : Int32) [(.int (nar .byte (own_at8 p2 (0 : Int32)))), (.int (nar .byte (own_at8 p2 (1 : Int32))))] (.int (0 : Int32)) := Arv.set Ar249 qk249 Sz249 Ng249 Hs249 Gs249 (fits_nar_byte _) W250 1 rfl (Nat.le_of_ble_eq_true rfl)
    have N250 := Fr.snoc X250 N248 g_ba
    have Z252 : n0 ≤ h250.size := Nat.le_trans Z247 ((Keep.of_wr W250).1)
    have lt_ba := V_ba_250.lt
    obtain ⟨_, _, ⟨T253, L253, k253, n253⟩, -, X253, hS253, hle253, ⟨Lc253, hQ253, l253, y253, z253⟩, st253⟩ := callSS (s := s) X250 hx (y := (⟨"com/example/ledgerpost/ledgerpost/Payload", "ofBytes", "([B)Lcom/example/ledgerpost/ledgerpost/Payload;"⟩ : MethodName)) hown (mvT hZ (hw _ (List.mem_of_getElem? (i := 2) rfl))) (mvT hZ (hw _ (List.mem_of_getElem? (i := 3) rfl))) (mvT hZ (hw _ (List.mem_of_getElem? (i := 4) rfl))) (mvT hZ (hw _ (List.mem_of_getElem? (i := 5) rfl))) (by decide) (backOfS (W := 0) (rmO l Z a0 hw [] ba k_ba (2 : Int32) [(.int (nar .byte (own_at8 p2 (0 : Int32)))), (.int (nar .byte (own_at8 p2 (1 : Int32))))] h250 n0 Z252 V_ba_250 E_ba_251 (by decide)) hZ (hw _ (List.mem_of_getElem? (i := 5) rfl)) (hw _ (List.mem_of_getElem? (i := 4) rfl)) (by decide) (by decide)) (g := (mkF m 63 #[.val (.int p1), .val (.int p2), .val (.int (2 : Int32)), .val (.ref ba), .unset, .unset, .unset] [(.ref ba)])) rfl (by rw [hml]; rfl) (argsL := [(.ref ba)]) (rest := []) (lenOf pd_3 rfl) rfl (by show 2 * 0 + _ ≤ _; exact Nat.le_of_eq rfl) (hb hby at_63) (fun _ _ => ⟨rfl, e250, (by decide : 1 + 4 ≤ _), (by decide : 2 + 30 ≤ _)⟩)
    dsimp only [Pt.U, Pt.locs, Pt.cells, Pt.slots] at X253 l253 y253 z253 st253 hQ253 hS253 hle253
    subst l253 y253 z253
    have hle253' : h250.size ≤ T253.heap.size := by have q := hle253; rw [e250] at q; exact q
    obtain ⟨X253', hS253', hZ253, hown253⟩ := rebS (s := s) (vm0 := s.vm) ((State.WarmedH.refl s).since 0) (Nat.zero_le _) X253 hS253 hle253' hZ hown
    obtain ⟨bp, cc, rfl, N253q, K253, E253, F0253, F1253, V253, Ec253, lb253, lc253⟩ := hQ253
    have N253 := Fr.app N250 N253q
    have V_ba_254 := V_ba_250.keep K253 nin0
    have E_ba_255 := E_ba_251.keep K253
    have Z256 : n0 ≤ T253.heap.size := Nat.le_trans Z252 (K253.1)
    have ne_ba_bp : ba ≠ bp := Nat.ne_of_lt (Nat.lt_of_lt_of_le lt_ba lb253)
    have ne_ba_cc : ba ≠ cc := Nat.ne_of_lt (Nat.lt_of_lt_of_le lt_ba lc253)
    obtain ⟨cq257, kq257, q257a, q257b, q257c⟩ := isOf hZ253 rfl E253
    obtain ⟨_, _, ⟨T257, L257, k257, n257⟩, -, X257, ⟨Lc257, hQ257, l257, y257, z257⟩, st257⟩ := X253'.virtualBack hx (y := (⟨"com/example/ledgerpost/ledgerpost/Payload", "isText", "()Z"⟩ : MethodName)) (z := (⟨"com/example/ledgerpost/ledgerpost/Payload", "isText", "()Z"⟩ : MethodName)) hown253 (mvT hZ253 (hw _ (List.mem_of_getElem? (i := 38) rfl))) (mvT hZ253 (hw _ (List.mem_of_getElem? (i := 39) rfl))) (notFace_of_selects (args := #[]) (mvT hZ253 (hw _ (List.mem_of_getElem? (i := 41) rfl)))) (mvT hZ253 (hw _ (List.mem_of_getElem? (i := 41) rfl))) (mvT hZ253 (hw _ (List.mem_of_getElem? (i := 40) rfl))) (by decide) (backOf (W := 0) (rmI l Z a0 hw [] bp T253.heap n0 Z256 F0253) hZ253 (hw _ (List.mem_of_getElem? (i := 42) rfl)) (hw _ (List.mem_of_getElem? (i := 4) rfl)) (by decide) (by decide)) q257a q257c (g := (mkF m 70 #[.val (.int p1), .val (.int p2), .val (.int (2 : Int32)), .val (.ref ba), .val (.ref bp), .unset, .unset] [(.ref bp)])) rfl (by rw [hml]; rfl) (Steps.refl _) (argsL := []) (rest := []) (lenOf pd_4 rfl) rfl (by show 2 * 0 + _ ≤ _; exact Nat.le_of_eq rfl) (hb hby at_70) (fun _ _ => ⟨rfl, rfl, (by decide : 5 + 0 ≤ _), (by decide : 32 + 0 ≤ _)⟩)
    dsimp only [Pt.U, Pt.locs, Pt.cells, Pt.slots] at X257 l257 y257 z257 st257 hQ257
    subst l257 y257 z257
    obtain ⟨rfl, N257q, e257⟩ := hQ257
    have N257 := Fr.app N253 N257q
    obtain ⟨cq258, kq258, q258a, q258b, q258c⟩ := isOf hZ253 e257 E253
    obtain ⟨_, _, ⟨T258, L258, k258, n258⟩, -, X258, ⟨Lc258, hQ258, l258, y258, z258⟩, st258⟩ := X257.virtualBack hx (y := (⟨"com/example/ledgerpost/ledgerpost/Payload", "text", "()Ljava/lang/String;"⟩ : MethodName)) (z := (⟨"com/example/ledgerpost/ledgerpost/Payload", "text", "()Ljava/lang/String;"⟩ : MethodName)) hown253 (mvT hZ253 (hw _ (List.mem_of_getElem? (i := 43) rfl))) (mvT hZ253 (hw _ (List.mem_of_getElem? (i := 44) rfl))) (notFace_of_selects (args := #[]) (mvT hZ253 (hw _ (List.mem_of_getElem? (i := 46) rfl)))) (mvT hZ253 (hw _ (List.mem_of_getElem? (i := 46) rfl))) (mvT hZ253 (hw _ (List.mem_of_getElem? (i := 45) rfl))) (by decide) (backOf (W := 0) (rmT l Z a0 hw [] bp T253.heap n0 Z256 F0253) hZ253 (hw _ (List.mem_of_getElem? (i := 47) rfl)) (hw _ (List.mem_of_getElem? (i := 4) rfl)) (by decide) (by decide)) q258a q258c (g := (mkF m 80 #[.val (.int p1), .val (.int p2), .val (.int (2 : Int32)), .val (.ref ba), .val (.ref bp), .unset, .unset] [(.ref bp)])) rfl (by rw [hml]; rfl) (Steps.refl _) (argsL := []) (rest := []) (lenOf pd_5 rfl) rfl (by show 2 * 0 + _ ≤ _; exact Nat.le_of_eq rfl) (hb hby at_80) (fun _ _ => ⟨rfl, e257, (by decide : 5 + 0 ≤ _), (by decide : 32 + 0 ≤ _)⟩)
    dsimp only [Pt.U, Pt.locs, Pt.cells, Pt.slots] at X258 l258 y258 z258 st258 hQ258
    subst l258 y258 z258
    obtain ⟨rfl, N258q, e258⟩ := hQ258
    have N258 := Fr.app N257 N258q
    obtain ⟨cq259, kq259, q259a, q259b, q259c⟩ := isOf hZ253 e258 E253
    obtain ⟨_, _, ⟨T259, L259, k259, n259⟩, -, X259, ⟨Lc259, hQ259, l259, y259, z259⟩, st259⟩ := X258.virtualBack hx (y := (⟨"com/example/ledgerpost/ledgerpost/Payload", "length", "()J"⟩ : MethodName)) (z := (⟨"com/example/ledgerpost/ledgerpost/Payload", "length", "()J"⟩ : MethodName)) hown253 (mvT hZ253 (hw _ (List.mem_of_getElem? (i := 48) rfl))) (mvT hZ253 (hw _ (List.mem_of_getElem? (i := 49) rfl))) (notFace_of_selects (args := #[]) (mvT hZ253 (hw _ (List.mem_of_getElem? (i := 51) rfl)))) (mvT hZ253 (hw _ (List.mem_of_getElem? (i := 51) rfl))) (mvT hZ253 (hw _ (List.mem_of_getElem? (i := 50) rfl))) (by decide) (backOf (W := 0) (rmL l Z a0 hw [] bp cc k_ba (2 : Int32) [(.int (nar .byte (own_at8 p2 (0 : Int32)))), (.int (nar .byte (own_at8 p2 (1 : Int32))))] T253.heap n0 Z256 F0253 F1253 V253) hZ253 (hw _ (List.mem_of_getElem? (i := 52) rfl)) (hw _ (List.mem_of_getElem? (i := 4) rfl)) (by decide) (by decide)) q259a q259c (g := (mkF m 90 #[.val (.int p1), .val (.int p2), .val (.int (2 : Int32)), .val (.ref ba), .val (.ref bp), .unset, .unset] [(.ref bp)])) rfl (by rw [hml]; rfl) (Steps.refl _) (argsL := []) (rest := []) (lenOf pd_6 rfl) rfl (by show 2 * 0 + _ ≤ _; exact Nat.le_of_eq rfl) (hb hby at_90) (fun _ _ => ⟨rfl, e258, (by decide : 5 + 0 ≤ _), (by decide : 32 + 0 ≤ _)⟩)
    dsimp only [Pt.U, Pt.locs, Pt.cells, Pt.slots] at X259 l259 y259 z259 st259 hQ259
    subst l259 y259 z259
    obtain ⟨rfl, N259q, e259⟩ := hQ259
    have N259 := Fr.app N258 N259q
    have lt_ba_b1 := E_ba_255.lt
    have lt_bp_b1 := E253.lt
    have lt_cc_b1 := Ec253.lt
    obtain ⟨cq260, kq260, q260a, q260b, q260c⟩ := isOf hZ253 e259 E253
    obtain ⟨_, _, ⟨T260, L260, k260, n260⟩, -, X260, ⟨Lc260, hQ260, l260, y260, z260⟩, st260⟩ := X259.virtualBack hx (y := (⟨"com/example/ledgerpost/ledgerpost/Payload", "bytes", "()[B"⟩ : MethodName)) (z := (⟨"com/example/ledgerpost/ledgerpost/Payload", "bytes", "()[B"⟩ : MethodName)) hown253 (mvT hZ253 (hw _ (List.mem_of_getElem? (i := 53) rfl))) (mvT hZ253 (hw _ (List.mem_of_getElem? (i := 54) rfl))) (notFace_of_selects (args := #[]) (mvT hZ253 (hw _ (List.mem_of_getElem? (i := 56) rfl)))) (mvT hZ253 (hw _ (List.mem_of_getElem? (i := 56) rfl))) (mvT hZ253 (hw _ (List.mem_of_getElem? (i := 55) rfl))) (by decide) (backOf (W := 0) (rmB l Z a0 hw [] bp cc k_ba (2 : Int32) [(.int (nar .byte (own_at8 p2 (0 : Int32)))), (.int (nar .byte (own_at8 p2 (1 : Int32))))] T253.heap n0 Z256 F0253 F1253 V253 Ec253 (by decide)) hZ253 (hw _ (List.mem_of_getElem? (i := 57) rfl)) (hw _ (List.mem_of_getElem? (i := 4) rfl)) (by decide) (by decide)) q260a q260c (g := (mkF m 103 #[.val (.int p1), .val (.int p2), .val (.int (2 : Int32)), .val (.ref ba), .val (.ref bp), .unset, .unset] [(.ref bp)])) rfl (by rw [hml]; rfl) (Steps.refl _) (argsL := []) (rest := []) (lenOf pd_7 rfl) rfl (by show 2 * 0 + _ ≤ _; exact Nat.le_of_eq rfl) (hb hby at_103) (fun _ _ => ⟨rfl, e259, (by decide : 5 + 1 ≤ _), (by decide : 32 + 4 ≤ _)⟩)
    dsimp only [Pt.U, Pt.locs, Pt.cells, Pt.slots] at X260 l260 y260 z260 st260 hQ260
    subst l260 y260 z260
    obtain ⟨b1, rfl, N260q, K260, V260, l260, g260⟩ := hQ260
    have N260 := Fr.app N259 N260q
    have V_ba_261 := V_ba_254.keep K260 nin0
    have E_ba_262 := E_ba_255.keep K260
    have E_bp_265 := E253.keep K260
    have F0_bp_266 := F0253.keep K260 nin0
    have F1_bp_267 := F1253.keep K260 nin0
    have V_cc_268 := V253.keep K260 nin0
    have E_cc_269 := Ec253.keep K260
    have Z270 : n0 ≤ T260.heap.size := Nat.le_trans Z256 (K260.1)
    have hk271 := Nat.le_trans (Nat.le_refl _) (K260.1)
    have g_b1 := g260
    have ne_ba_b1 : ba ≠ b1 := Nat.ne_of_lt (Nat.lt_of_lt_of_le lt_ba_b1 l260)
    have ne_bp_b1 : bp ≠ b1 := Nat.ne_of_lt (Nat.lt_of_lt_of_le lt_bp_b1 l260)
    have ne_cc_b1 : cc ≠ b1 := Nat.ne_of_lt (Nat.lt_of_lt_of_le lt_cc_b1 l260)
    obtain ⟨_, _, ⟨T272, L272, k272, n272⟩, -, X272, ⟨Lc272, hQ272, l272, y272, z272⟩, st272⟩ := Jvm.LawKit.callS X260 hx (y := (⟨"com/example/ledgerpost/ledgerpost/PayloadOfBytesPinLaw", "holds", "([BII)Z"⟩ : MethodName)) hown253 (mvT hZ253 (hw _ (List.mem_of_getElem? (i := 58) rfl))) (mvT hZ253 (hw _ (List.mem_of_getElem? (i := 59) rfl))) (mvT hZ253 (hw _ (List.mem_of_getElem? (i := 60) rfl))) (mvT hZ253 (hw _ (List.mem_of_getElem? (i := 61) rfl))) (by decide) (backOf (W := 0) (rmH2 l Z a0 hw [] b1 p2 k_ba T260.heap n0 Z270 V260) hZ253 (hw _ (List.mem_of_getElem? (i := 61) rfl)) (hw _ (List.mem_of_getElem? (i := 60) rfl)) (by decide) (by decide)) (g := (mkF m 120 #[.val (.int p1), .val (.int p2), .val (.int (2 : Int32)), .val (.ref ba), .val (.ref bp), .val (.ref b1), .unset] [(.int p2), (.int (2 : Int32)), (.ref b1)])) rfl (by rw [hml]; rfl) (argsL := [(.ref b1), (.int (2 : Int32)), (.int p2)]) (rest := []) (lenOf pd_8 rfl) rfl (by show 2 * 0 + _ ≤ _; exact Nat.le_of_eq rfl) (hb hby at_120) (fun _ _ => ⟨rfl, rfl, (by decide : 6 + 0 ≤ _), (by decide : 36 + 0 ≤ _)⟩)
    dsimp only [Pt.U, Pt.locs, Pt.cells, Pt.slots] at X272 l272 y272 z272 st272 hQ272
    subst l272 y272 z272
    obtain ⟨rfl, N272q, e272⟩ := hQ272
    have N272 := Fr.app N260 N272q
    obtain ⟨_, _, ⟨T273, L273, k273, n273⟩, -, X273, ⟨Lc273, hQ273, l273, y273, z273⟩, st273⟩ := Jvm.LawKit.callS X272 hx (y := (⟨"com/example/ledgerpost/ledgerpost/PayloadOfBytesPinLaw", "flip", "([BI)V"⟩ : MethodName)) hown253 (mvT hZ253 (hw _ (List.mem_of_getElem? (i := 62) rfl))) (mvT hZ253 (hw _ (List.mem_of_getElem? (i := 63) rfl))) (mvT hZ253 (hw _ (List.mem_of_getElem? (i := 60) rfl))) (mvT hZ253 (hw _ (List.mem_of_getElem? (i := 64) rfl))) (by decide) (backOf (W := 0) (rmF2 l Z a0 hw [] ba k_ba (nar .byte (own_at8 p2 (0 : Int32))) (nar .byte (own_at8 p2 (1 : Int32))) T260.heap n0 Z270 V_ba_261 g_ba) hZ253 (hw _ (List.mem_of_getElem? (i := 64) rfl)) (hw _ (List.mem_of_getElem? (i := 60) rfl)) (by decide) (by decide)) (g := (mkF m 130 #[.val (.int p1), .val (.int p2), .val (.int (2 : Int32)), .val (.ref ba), .val (.ref bp), .val (.ref b1), .unset] [(.int (2 : Int32)), (.ref ba)])) rfl (by rw [hml]; rfl) (argsL := [(.ref ba), (.int (2 : Int32))]) (rest := []) (lenOf pd_9 rfl) rfl (by show 2 * 0 + _ ≤ _; exact Nat.le_of_eq rfl) (hb hby at_130) (fun _ _ => ⟨rfl, e272, (by decide : 6 + 0 ≤ _), (by decide : 36 + 0 ≤ _)⟩)
    dsimp only [Pt.U, Pt.locs, Pt.cells, Pt.slots] at X273 l273 y273 z273 st273 hQ273
    subst l273 y273 z273
    obtain ⟨rfl, N273q, K273⟩ := hQ273
    have N273 := Fr.app N272 N273q
    have E_ba_274 := E_ba_262.keep K273
    have E_bp_277 := E_bp_265.keep K273
    have F0_bp_278 := F0_bp_266.keep K273 (ninS (Ne.symm ne_ba_bp) nin0)
    have F1_bp_279 := F1_bp_267.keep K273 (ninS (Ne.symm ne_ba_bp) nin0)
    have V_cc_280 := V_cc_268.keep K273 (ninS (Ne.symm ne_ba_cc) nin0)
    have E_cc_281 := E_cc_269.keep K273
    have V_b1_282 := V260.keep K273 (ninS (Ne.symm ne_ba_b1) nin0)
    have Z286 : n0 ≤ T273.heap.size := Nat.le_trans Z270 (K273.1)
    have hk287 := Nat.le_trans hk271 (K273.1)
    have ltb1 := V_b1_282.lt
    obtain ⟨_, _, ⟨T288, L288, k288, n288⟩, -, X288, ⟨Lc288, hQ288, l288, y288, z288⟩, st288⟩ := Jvm.LawKit.callS X273 hx (y := (⟨"com/example/ledgerpost/ledgerpost/PayloadOfBytesPinLaw", "flip", "([BI)V"⟩ : MethodName)) hown253 (mvT hZ253 (hw _ (List.mem_of_getElem? (i := 62) rfl))) (mvT hZ253 (hw _ (List.mem_of_getElem? (i := 63) rfl))) (mvT hZ253 (hw _ (List.mem_of_getElem? (i := 60) rfl))) (mvT hZ253 (hw _ (List.mem_of_getElem? (i := 64) rfl))) (by decide) (backOf (W := 0) (rmF2 l Z a0 hw [] b1 k_ba (nar .byte (own_at8 p2 (0 : Int32))) (nar .byte (own_at8 p2 (1 : Int32))) T273.heap n0 Z286 V_b1_282 g_b1) hZ253 (hw _ (List.mem_of_getElem? (i := 64) rfl)) (hw _ (List.mem_of_getElem? (i := 60) rfl)) (by decide) (by decide)) (g := (mkF m 136 #[.val (.int p1), .val (.int p2), .val (.int (2 : Int32)), .val (.ref ba), .val (.ref bp), .val (.ref b1), .unset] [(.int (2 : Int32)), (.ref b1)])) rfl (by rw [hml]; rfl) (argsL := [(.ref b1), (.int (2 : Int32))]) (rest := []) (lenOf pd_9 rfl) rfl (by show 2 * 0 + _ ≤ _; exact Nat.le_of_eq rfl) (hb hby at_136) (fun _ _ => ⟨rfl, rfl, (by decide : 6 + 0 ≤ _), (by decide : 36 + 0 ≤ _)⟩)
    dsimp only [Pt.U, Pt.locs, Pt.cells, Pt.slots] at X288 l288 y288 z288 st288 hQ288
    subst l288 y288 z288
    obtain ⟨rfl, N288q, K288⟩ := hQ288
    have N288 := Fr.app N273 N288q
    have E_ba_289 := E_ba_274.keep K288
    have E_bp_292 := E_bp_277.keep K288
    have F0_bp_293 := F0_bp_278.keep K288 (ninS ne_bp_b1 nin0)
    have F1_bp_294 := F1_bp_279.keep K288 (ninS ne_bp_b1 nin0)
    have V_cc_295 := V_cc_280.keep K288 (ninS ne_cc_b1 nin0)
    have E_cc_296 := E_cc_281.keep K288
    have Z300 : n0 ≤ T288.heap.size := Nat.le_trans Z286 (K288.1)
    have hk301 := Nat.le_trans hk287 (K288.1)
    have lt_ba_b2 := E_ba_289.lt
    have lt_bp_b2 := E_bp_292.lt
    have lt_cc_b2 := E_cc_296.lt
    have lt_b1_b2 := Nat.lt_of_lt_of_le ltb1 K288.1
    obtain ⟨cq302, kq302, q302a, q302b, q302c⟩ := isOf hZ253 rfl E_bp_292
    obtain ⟨_, _, ⟨T302, L302, k302, n302⟩, -, X302, ⟨Lc302, hQ302, l302, y302, z302⟩, st302⟩ := X288.virtualBack hx (y := (⟨"com/example/ledgerpost/ledgerpost/Payload", "bytes", "()[B"⟩ : MethodName)) (z := (⟨"com/example/ledgerpost/ledgerpost/Payload", "bytes", "()[B"⟩ : MethodName)) hown253 (mvT hZ253 (hw _ (List.mem_of_getElem? (i := 53) rfl))) (mvT hZ253 (hw _ (List.mem_of_getElem? (i := 54) rfl))) (notFace_of_selects (args := #[]) (mvT hZ253 (hw _ (List.mem_of_getElem? (i := 56) rfl)))) (mvT hZ253 (hw _ (List.mem_of_getElem? (i := 56) rfl))) (mvT hZ253 (hw _ (List.mem_of_getElem? (i := 55) rfl))) (by decide) (backOf (W := 0) (rmB l Z a0 hw [] bp cc k_ba (2 : Int32) [(.int (nar .byte (own_at8 p2 (0 : Int32)))), (.int (nar .byte (own_at8 p2 (1 : Int32))))] T288.heap n0 Z300 F0_bp_293 F1_bp_294 V_cc_295 E_cc_296 (by decide)) hZ253 (hw _ (List.mem_of_getElem? (i := 57) rfl)) (hw _ (List.mem_of_getElem? (i := 4) rfl)) (by decide) (by decide)) q302a q302c (g := (mkF m 141 #[.val (.int p1), .val (.int p2), .val (.int (2 : Int32)), .val (.ref ba), .val (.ref bp), .val (.ref b1), .unset] [(.ref bp)])) rfl (by rw [hml]; rfl) (Steps.refl _) (argsL := []) (rest := []) (lenOf pd_7 rfl) rfl (by show 2 * 0 + _ ≤ _; exact Nat.le_of_eq rfl) (hb hby at_141) (fun _ _ => ⟨rfl, rfl, (by decide : 6 + 1 ≤ _), (by decide : 36 + 4 ≤ _)⟩)
    dsimp only [Pt.U, Pt.locs, Pt.cells, Pt.slots] at X302 l302 y302 z302 st302 hQ302
    subst l302 y302 z302
    obtain ⟨b2, rfl, N302q, K302, V302, l302, g302⟩ := hQ302
    have N302 := Fr.app N288 N302q
    have E_ba_303 := E_ba_289.keep K302
    have E_bp_306 := E_bp_292.keep K302
    have F0_bp_307 := F0_bp_293.keep K302 nin0
    have F1_bp_308 := F1_bp_294.keep K302 nin0
    have V_cc_309 := V_cc_295.keep K302 nin0
    have E_cc_310 := E_cc_296.keep K302
    have Z314 : n0 ≤ T302.heap.size := Nat.le_trans Z300 (K302.1)
    have hk315 := Nat.le_trans hk301 (K302.1)
    have ne_ba_b2 : ba ≠ b2 := Nat.ne_of_lt (Nat.lt_of_lt_of_le lt_ba_b2 l302)
    have ne_b1_b2 : b1 ≠ b2 := Nat.ne_of_lt (Nat.lt_of_lt_of_le lt_b1_b2 l302)
    obtain ⟨_, _, ⟨T316, L316, k316, n316⟩, -, X316, ⟨Lc316, hQ316, l316, y316, z316⟩, st316⟩ := Jvm.LawKit.callS X302 hx (y := (⟨"com/example/ledgerpost/ledgerpost/PayloadOfBytesPinLaw", "holds", "([BII)Z"⟩ : MethodName)) hown253 (mvT hZ253 (hw _ (List.mem_of_getElem? (i := 58) rfl))) (mvT hZ253 (hw _ (List.mem_of_getElem? (i := 59) rfl))) (mvT hZ253 (hw _ (List.mem_of_getElem? (i := 60) rfl))) (mvT hZ253 (hw _ (List.mem_of_getElem? (i := 61) rfl))) (by decide) (backOf (W := 0) (rmH2 l Z a0 hw [] b2 p2 k_ba T302.heap n0 Z314 V302) hZ253 (hw _ (List.mem_of_getElem? (i := 61) rfl)) (hw _ (List.mem_of_getElem? (i := 60) rfl)) (by decide) (by decide)) (g := (mkF m 165 #[.val (.int p1), .val (.int p2), .val (.int (2 : Int32)), .val (.ref ba), .val (.ref bp), .val (.ref b1), .val (.ref b2)] [(.int p2), (.int (2 : Int32)), (.ref b2)])) rfl (by rw [hml]; rfl) (argsL := [(.ref b2), (.int (2 : Int32)), (.int p2)]) (rest := []) (lenOf pd_8 rfl) rfl (by show 2 * 0 + _ ≤ _; exact Nat.le_of_eq rfl) (hb hby at_165) (fun _ _ => ⟨rfl, rfl, (by decide : 7 + 0 ≤ _), (by decide : 40 + 0 ≤ _)⟩)
    dsimp only [Pt.U, Pt.locs, Pt.cells, Pt.slots] at X316 l316 y316 z316 st316 hQ316
    subst l316 y316 z316
    obtain ⟨rfl, N316q, e316⟩ := hQ316
    have N316 := Fr.app N302 N316q
    have pre317 : ∀ t_, Steps p.tables e below (T316.setTop (mkF m 168 #[.val (.int p1), .val (.int p2), .val (.int (2 : Int32)), .val (.ref ba), .val (.ref bp), .val (.ref b1), .val (.ref b2)] [(.int (1 : Int32))])) t_ → Steps p.tables e below (s₁.setTop (entryFrame m #[(.int p1), (.int p2)] maxLocals)) t_ := fun t_ k_ => pre101 _ (by
      show Steps p.tables e below (s₁.setTop (mkF m 7 #[.val (.int p1), .val (.int p2), .val (.int (2 : Int32)), .unset, .unset, .unset, .unset] [])) _
      refine XS.iloadN X0.here hx rfl (hb hby at_7) rfl ?_
      show Steps p.tables e below (s₁.setTop (mkF m 8 #[.val (.int p1), .val (.int p2), .val (.int (2 : Int32)), .unset, .unset, .unset, .unset] [(.int (2 : Int32))])) _
      refine st241 _ ?_
      show Steps p.tables e below (T241.setTop (mkF m 10 #[.val (.int p1), .val (.int p2), .val (.int (2 : Int32)), .unset, .unset, .unset, .unset] [(.ref ba)])) _
      refine XS.astoreN X241.here hx rfl (hb hby at_10) rfl rfl (l' := #[.val (.int p1), .val (.int p2), .val (.int (2 : Int32)), .val (.ref ba), .unset, .unset, .unset]) rfl ?_
      show Steps p.tables e below (T241.setTop (mkF m 11 #[.val (.int p1), .val (.int p2), .val (.int (2 : Int32)), .val (.ref ba), .unset, .unset, .unset] [])) _
      refine XS.iloadN X241.here hx rfl (hb hby at_11) rfl ?_
      show Steps p.tables e below (T241.setTop (mkF m 12 #[.val (.int p1), .val (.int p2), .val (.int (2 : Int32)), .val (.ref ba), .unset, .unset, .unset] [(.int (2 : Int32))])) _
      refine XS.ifNo X241.here hx rfl (hb hby at_12) rfl ((if0 _ _).trans (tlt (by decide)).2.2.2) ?_
      show Steps p.tables e below (T241.setTop (mkF m 15 #[.val (.int p1), .val (.int p2), .val (.int (2 : Int32)), .val (.ref ba), .unset, .unset, .unset] [])) _
      refine XS.aloadN X241.here hx rfl (hb hby at_15) rfl rfl ?_
      show Steps p.tables e below (T241.setTop (mkF m 16 #[.val (.int p1), .val (.int p2), .val (.int (2 : Int32)), .val (.ref ba), .unset, .unset, .unset] [(.ref ba)])) _
      refine XS.iconst X241.here hx rfl (hb hby at_16) ?_
      show Steps p.tables e below (T241.setTop (mkF m 17 #[.val (.int p1), .val (.int p2), .val (.int (2 : Int32)), .val (.ref ba), .unset, .unset, .unset] [(.int (0 : Int32)), (.ref ba)])) _
      refine XS.iloadN X241.here hx rfl (hb hby at_17) rfl ?_
      show Steps p.tables e below (T241.setTop (mkF m 18 #[.val (.int p1), .val (.int p2), .val (.int (2 : Int32)), .val (.ref ba), .unset, .unset, .unset] [(.int p2), (.int (0 : Int32)), (.ref ba)])) _
      refine XS.iconst X241.here hx rfl (hb hby at_18) ?_
      show Steps p.tables e below (T241.setTop (mkF m 19 #[.val (.int p1), .val (.int p2), .val (.int (2 : Int32)), .val (.ref ba), .unset, .unset, .unset] [(.int (0 : Int32)), (.int p2), (.int (0 : Int32)), (.ref ba)])) _
      refine st243 _ ?_
      show Steps p.tables e below (T243.setTop (mkF m 22 #[.val (.int p1), .val (.int p2), .val (.int (2 : Int32)), .val (.ref ba), .unset, .unset, .unset] [(.int (own_at8 p2 (0 : Int32))), (.int (0 : Int32)), (.ref ba)])) _
      refine st245 _ ?_
      show Steps p.tables e below (T245.setTop (mkF m 23 #[.val (.int p1), .val (.int p2), .val (.int (2 : Int32)), .val (.ref ba), .unset, .unset, .unset] [])) _
      refine XS.iloadN X245.here hx rfl (hb hby at_23) rfl ?_
      show Steps p.tables e below (T245.setTop (mkF m 24 #[.val (.int p1), .val (.int p2), .val (.int (2 : Int32)), .val (.ref ba), .unset, .unset, .unset] [(.int (2 : Int32))])) _
      refine XS.iconst X245.here hx rfl (hb hby at_24) ?_
      show Steps p.tables e below (T245.setTop (mkF m 25 #[.val (.int p1), .val (.int p2), .val (.int (2 : Int32)), .val (.ref ba), .unset, .unset, .unset] [(.int (1 : Int32)), (.int (2 : Int32))])) _
      refine XS.icmpNo X245.here hx rfl (hb hby at_25) rfl (tlt (by decide)).2.2.2 ?_
      show Steps p.tables e below (T245.setTop (mkF m 28 #[.val (.int p1), .val (.int p2), .val (.int (2 : Int32)), .val (.ref ba), .unset, .unset, .unset] [])) _
      refine XS.aloadN X245.here hx rfl (hb hby at_28) rfl rfl ?_
      show Steps p.tables e below (T245.setTop (mkF m 29 #[.val (.int p1), .val (.int p2), .val (.int (2 : Int32)), .val (.ref ba), .unset, .unset, .unset] [(.ref ba)])) _
      refine XS.iconst X245.here hx rfl (hb hby at_29) ?_
      show Steps p.tables e below (T245.setTop (mkF m 30 #[.val (.int p1), .val (.int p2), .val (.int (2 : Int32)), .val (.ref ba), .unset, .unset, .unset] [(.int (1 : Int32)), (.ref ba)])) _
      refine XS.iloadN X245.here hx rfl (hb hby at_30) rfl ?_
      show Steps p.tables e below (T245.setTop (mkF m 31 #[.val (.int p1), .val (.int p2), .val (.int (2 : Int32)), .val (.ref ba), .unset, .unset, .unset] [(.int p2), (.int (1 : Int32)), (.ref ba)])) _
      refine XS.iconst X245.here hx rfl (hb hby at_31) ?_
      show Steps p.tables e below (T245.setTop (mkF m 32 #[.val (.int p1), .val (.int p2), .val (.int (2 : Int32)), .val (.ref ba), .unset, .unset, .unset] [(.int (1 : Int32)), (.int p2), (.int (1 : Int32)), (.ref ba)])) _
      refine st248 _ ?_
      show Steps p.tables e below (T248.setTop (mkF m 35 #[.val (.int p1), .val (.int p2), .val (.int (2 : Int32)), .val (.ref ba), .unset, .unset, .unset] [(.int (own_at8 p2 (1 : Int32))), (.int (1 : Int32)), (.ref ba)])) _
      refine st250 _ ?_
      show Steps p.tables e below (T250.setTop (mkF m 36 #[.val (.int p1), .val (.int p2), .val (.int (2 : Int32)), .val (.ref ba), .unset, .unset, .unset] [])) _
      refine XS.iloadN X250.here hx rfl (hb hby at_36) rfl ?_
      show Steps p.tables e below (T250.setTop (mkF m 37 #[.val (.int p1), .val (.int p2), .val (.int (2 : Int32)), .val (.ref ba), .unset, .unset, .unset] [(.int (2 : Int32))])) _
      refine XS.iconst X250.here hx rfl (hb hby at_37) ?_
      show Steps p.tables e below (T250.setTop (mkF m 38 #[.val (.int p1), .val (.int p2), .val (.int (2 : Int32)), .val (.ref ba), .unset, .unset, .unset] [(.int (2 : Int32)), (.int (2 : Int32))])) _
      refine XS.icmpYes X250.here hx rfl (pc0 := 38) (pc' := 49) rfl (hb hby at_38) rfl (flt (by decide)).2.2.2 (by decide) (by decide) ?_
      show Steps p.tables e below (T250.setTop (mkF m 49 #[.val (.int p1), .val (.int p2), .val (.int (2 : Int32)), .val (.ref ba), .unset, .unset, .unset] [])) _
      refine XS.iloadN X250.here hx rfl (hb hby at_49) rfl ?_
      show Steps p.tables e below (T250.setTop (mkF m 50 #[.val (.int p1), .val (.int p2), .val (.int (2 : Int32)), .val (.ref ba), .unset, .unset, .unset] [(.int (2 : Int32))])) _
      refine XS.iconst X250.here hx rfl (hb hby at_50) ?_
      show Steps p.tables e below (T250.setTop (mkF m 51 #[.val (.int p1), .val (.int p2), .val (.int (2 : Int32)), .val (.ref ba), .unset, .unset, .unset] [(.int (3 : Int32)), (.int (2 : Int32))])) _
      refine XS.icmpYes X250.here hx rfl (pc0 := 51) (pc' := 62) rfl (hb hby at_51) rfl (flt (by decide)).2.2.2 (by decide) (by decide) ?_
      show Steps p.tables e below (T250.setTop (mkF m 62 #[.val (.int p1), .val (.int p2), .val (.int (2 : Int32)), .val (.ref ba), .unset, .unset, .unset] [])) _
      refine XS.aloadN X250.here hx rfl (hb hby at_62) rfl rfl ?_
      show Steps p.tables e below (T250.setTop (mkF m 63 #[.val (.int p1), .val (.int p2), .val (.int (2 : Int32)), .val (.ref ba), .unset, .unset, .unset] [(.ref ba)])) _
      refine st253.trans ?_
      show Steps p.tables e below (T253.setTop (mkF m 66 #[.val (.int p1), .val (.int p2), .val (.int (2 : Int32)), .val (.ref ba), .unset, .unset, .unset] [(.ref bp)])) _
      refine XS.astore X253'.here hx rfl (hb hby at_66) rfl rfl (l' := #[.val (.int p1), .val (.int p2), .val (.int (2 : Int32)), .val (.ref ba), .val (.ref bp), .unset, .unset]) rfl ?_
      show Steps p.tables e below (T253.setTop (mkF m 68 #[.val (.int p1), .val (.int p2), .val (.int (2 : Int32)), .val (.ref ba), .val (.ref bp), .unset, .unset] [])) _
      refine XS.aload X253'.here hx rfl (hb hby at_68) rfl rfl ?_
      show Steps p.tables e below (T253.setTop (mkF m 70 #[.val (.int p1), .val (.int p2), .val (.int (2 : Int32)), .val (.ref ba), .val (.ref bp), .unset, .unset] [(.ref bp)])) _
      refine st257.trans ?_
      show Steps p.tables e below (T257.setTop (mkF m 73 #[.val (.int p1), .val (.int p2), .val (.int (2 : Int32)), .val (.ref ba), .val (.ref bp), .unset, .unset] [(.int (0 : Int32))])) _
      refine XS.ifYes X257.here hx rfl (pc0 := 73) (pc' := 78) rfl (hb hby at_73) rfl ((if0 _ _).trans (teq (rfl : (0 : Int32) = 0)).1) (by decide) (by decide) ?_
      show Steps p.tables e below (T257.setTop (mkF m 78 #[.val (.int p1), .val (.int p2), .val (.int (2 : Int32)), .val (.ref ba), .val (.ref bp), .unset, .unset] [])) _
      refine XS.aload X257.here hx rfl (hb hby at_78) rfl rfl ?_
      show Steps p.tables e below (T257.setTop (mkF m 80 #[.val (.int p1), .val (.int p2), .val (.int (2 : Int32)), .val (.ref ba), .val (.ref bp), .unset, .unset] [(.ref bp)])) _
      refine st258.trans ?_
      show Steps p.tables e below (T258.setTop (mkF m 83 #[.val (.int p1), .val (.int p2), .val (.int (2 : Int32)), .val (.ref ba), .val (.ref bp), .unset, .unset] [.null])) _
      refine XS.ifnullYes X258.here hx rfl (pc0 := 83) (pc' := 88) rfl (hb hby at_83) rfl (by decide) (by decide) ?_
      show Steps p.tables e below (T258.setTop (mkF m 88 #[.val (.int p1), .val (.int p2), .val (.int (2 : Int32)), .val (.ref ba), .val (.ref bp), .unset, .unset] [])) _
      refine XS.aload X258.here hx rfl (hb hby at_88) rfl rfl ?_
      show Steps p.tables e below (T258.setTop (mkF m 90 #[.val (.int p1), .val (.int p2), .val (.int (2 : Int32)), .val (.ref ba), .val (.ref bp), .unset, .unset] [(.ref bp)])) _
      refine st259.trans ?_
      show Steps p.tables e below (T259.setTop (mkF m 93 #[.val (.int p1), .val (.int p2), .val (.int (2 : Int32)), .val (.ref ba), .val (.ref bp), .unset, .unset] [(.long ((2 : Int32).toInt64))])) _
      refine XS.iloadN X259.here hx rfl (hb hby at_93) rfl ?_
      show Steps p.tables e below (T259.setTop (mkF m 94 #[.val (.int p1), .val (.int p2), .val (.int (2 : Int32)), .val (.ref ba), .val (.ref bp), .unset, .unset] [(.int (2 : Int32)), (.long ((2 : Int32).toInt64))])) _
      refine XS.i2l X259.here hx rfl (hb hby at_94) rfl ?_
      show Steps p.tables e below (T259.setTop (mkF m 95 #[.val (.int p1), .val (.int p2), .val (.int (2 : Int32)), .val (.ref ba), .val (.ref bp), .unset, .unset] [(.long ((2 : Int32).toInt64)), (.long ((2 : Int32).toInt64))])) _
      refine XS.lcmp X259.here hx rfl (hb hby at_95) rfl ?_
      show Steps p.tables e below (T259.setTop (mkF m 96 #[.val (.int p1), .val (.int p2), .val (.int (2 : Int32)), .val (.ref ba), .val (.ref bp), .unset, .unset] [(.int (lcmpW ((2 : Int32).toInt64) ((2 : Int32).toInt64)))])) _
      refine XS.ifYes X259.here hx rfl (pc0 := 96) (pc' := 101) rfl (hb hby at_96) rfl ((if0 _ _).trans (teq ((lw_eq _ _).mpr rfl)).1) (by decide) (by decide) ?_
      show Steps p.tables e below (T259.setTop (mkF m 101 #[.val (.int p1), .val (.int p2), .val (.int (2 : Int32)), .val (.ref ba), .val (.ref bp), .unset, .unset] [])) _
      refine XS.aload X259.here hx rfl (hb hby at_101) rfl rfl ?_
      show Steps p.tables e below (T259.setTop (mkF m 103 #[.val (.int p1), .val (.int p2), .val (.int (2 : Int32)), .val (.ref ba), .val (.ref bp), .unset, .unset] [(.ref bp)])) _
      refine st260.trans ?_
      show Steps p.tables e below (T260.setTop (mkF m 106 #[.val (.int p1), .val (.int p2), .val (.int (2 : Int32)), .val (.ref ba), .val (.ref bp), .unset, .unset] [(.ref b1)])) _
      refine XS.astore X260.here hx rfl (hb hby at_106) rfl rfl (l' := #[.val (.int p1), .val (.int p2), .val (.int (2 : Int32)), .val (.ref ba), .val (.ref bp), .val (.ref b1), .unset]) rfl ?_
      show Steps p.tables e below (T260.setTop (mkF m 108 #[.val (.int p1), .val (.int p2), .val (.int (2 : Int32)), .val (.ref ba), .val (.ref bp), .val (.ref b1), .unset] [])) _
      refine XS.aload X260.here hx rfl (hb hby at_108) rfl rfl ?_
      show Steps p.tables e below (T260.setTop (mkF m 110 #[.val (.int p1), .val (.int p2), .val (.int (2 : Int32)), .val (.ref ba), .val (.ref bp), .val (.ref b1), .unset] [(.ref b1)])) _
      refine XS.aloadN X260.here hx rfl (hb hby at_110) rfl rfl ?_
      show Steps p.tables e below (T260.setTop (mkF m 111 #[.val (.int p1), .val (.int p2), .val (.int (2 : Int32)), .val (.ref ba), .val (.ref bp), .val (.ref b1), .unset] [(.ref ba), (.ref b1)])) _
      refine Jvm.RoadKit.acmp (g := (mkF m 111 #[.val (.int p1), .val (.int p2), .val (.int (2 : Int32)), .val (.ref ba), .val (.ref bp), .val (.ref b1), .unset] [(.ref ba), (.ref b1)])) X260 hx rfl rfl rfl (pc0 := 111) (pc' := 116) (same := false) rfl (hb hby at_111) rfl (decide_eq_false fun q => (Ne.symm ne_ba_b1) (Value.ref.inj q)) (by decide) (by decide) ?_
      show Steps p.tables e below (T260.setTop (mkF m 116 #[.val (.int p1), .val (.int p2), .val (.int (2 : Int32)), .val (.ref ba), .val (.ref bp), .val (.ref b1), .unset] [])) _
      refine XS.aload X260.here hx rfl (hb hby at_116) rfl rfl ?_
      show Steps p.tables e below (T260.setTop (mkF m 118 #[.val (.int p1), .val (.int p2), .val (.int (2 : Int32)), .val (.ref ba), .val (.ref bp), .val (.ref b1), .unset] [(.ref b1)])) _
      refine XS.iloadN X260.here hx rfl (hb hby at_118) rfl ?_
      show Steps p.tables e below (T260.setTop (mkF m 119 #[.val (.int p1), .val (.int p2), .val (.int (2 : Int32)), .val (.ref ba), .val (.ref bp), .val (.ref b1), .unset] [(.int (2 : Int32)), (.ref b1)])) _
      refine XS.iloadN X260.here hx rfl (hb hby at_119) rfl ?_
      show Steps p.tables e below (T260.setTop (mkF m 120 #[.val (.int p1), .val (.int p2), .val (.int (2 : Int32)), .val (.ref ba), .val (.ref bp), .val (.ref b1), .unset] [(.int p2), (.int (2 : Int32)), (.ref b1)])) _
      refine st272 _ ?_
      show Steps p.tables e below (T272.setTop (mkF m 123 #[.val (.int p1), .val (.int p2), .val (.int (2 : Int32)), .val (.ref ba), .val (.ref bp), .val (.ref b1), .unset] [(.int (1 : Int32))])) _
      refine XS.ifYes X272.here hx rfl (pc0 := 123) (pc' := 128) rfl (hb hby at_123) rfl ((if0 _ _).trans (feq (by decide : ¬ (1 : Int32) = 0)).2) (by decide) (by decide) ?_
      show Steps p.tables e below (T272.setTop (mkF m 128 #[.val (.int p1), .val (.int p2), .val (.int (2 : Int32)), .val (.ref ba), .val (.ref bp), .val (.ref b1), .unset] [])) _
      refine XS.aloadN X272.here hx rfl (hb hby at_128) rfl rfl ?_
      show Steps p.tables e below (T272.setTop (mkF m 129 #[.val (.int p1), .val (.int p2), .val (.int (2 : Int32)), .val (.ref ba), .val (.ref bp), .val (.ref b1), .unset] [(.ref ba)])) _
      refine XS.iloadN X272.here hx rfl (hb hby at_129) rfl ?_
      show Steps p.tables e below (T272.setTop (mkF m 130 #[.val (.int p1), .val (.int p2), .val (.int (2 : Int32)), .val (.ref ba), .val (.ref bp), .val (.ref b1), .unset] [(.int (2 : Int32)), (.ref ba)])) _
      refine st273 _ ?_
      show Steps p.tables e below (T273.setTop (mkF m 133 #[.val (.int p1), .val (.int p2), .val (.int (2 : Int32)), .val (.ref ba), .val (.ref bp), .val (.ref b1), .unset] [])) _
      refine XS.aload X273.here hx rfl (hb hby at_133) rfl rfl ?_
      show Steps p.tables e below (T273.setTop (mkF m 135 #[.val (.int p1), .val (.int p2), .val (.int (2 : Int32)), .val (.ref ba), .val (.ref bp), .val (.ref b1), .unset] [(.ref b1)])) _
      refine XS.iloadN X273.here hx rfl (hb hby at_135) rfl ?_
      show Steps p.tables e below (T273.setTop (mkF m 136 #[.val (.int p1), .val (.int p2), .val (.int (2 : Int32)), .val (.ref ba), .val (.ref bp), .val (.ref b1), .unset] [(.int (2 : Int32)), (.ref b1)])) _
      refine st288 _ ?_
      show Steps p.tables e below (T288.setTop (mkF m 139 #[.val (.int p1), .val (.int p2), .val (.int (2 : Int32)), .val (.ref ba), .val (.ref bp), .val (.ref b1), .unset] [])) _
      refine XS.aload X288.here hx rfl (hb hby at_139) rfl rfl ?_
      show Steps p.tables e below (T288.setTop (mkF m 141 #[.val (.int p1), .val (.int p2), .val (.int (2 : Int32)), .val (.ref ba), .val (.ref bp), .val (.ref b1), .unset] [(.ref bp)])) _
      refine st302.trans ?_
      show Steps p.tables e below (T302.setTop (mkF m 144 #[.val (.int p1), .val (.int p2), .val (.int (2 : Int32)), .val (.ref ba), .val (.ref bp), .val (.ref b1), .unset] [(.ref b2)])) _
      refine XS.astore X302.here hx rfl (hb hby at_144) rfl rfl (l' := #[.val (.int p1), .val (.int p2), .val (.int (2 : Int32)), .val (.ref ba), .val (.ref bp), .val (.ref b1), .val (.ref b2)]) rfl ?_
      show Steps p.tables e below (T302.setTop (mkF m 146 #[.val (.int p1), .val (.int p2), .val (.int (2 : Int32)), .val (.ref ba), .val (.ref bp), .val (.ref b1), .val (.ref b2)] [])) _
      refine XS.aload X302.here hx rfl (hb hby at_146) rfl rfl ?_
      show Steps p.tables e below (T302.setTop (mkF m 148 #[.val (.int p1), .val (.int p2), .val (.int (2 : Int32)), .val (.ref ba), .val (.ref bp), .val (.ref b1), .val (.ref b2)] [(.ref b2)])) _
      refine XS.aload X302.here hx rfl (hb hby at_148) rfl rfl ?_
      show Steps p.tables e below (T302.setTop (mkF m 150 #[.val (.int p1), .val (.int p2), .val (.int (2 : Int32)), .val (.ref ba), .val (.ref bp), .val (.ref b1), .val (.ref b2)] [(.ref b1), (.ref b2)])) _
      refine Jvm.RoadKit.acmp (g := (mkF m 150 #[.val (.int p1), .val (.int p2), .val (.int (2 : Int32)), .val (.ref ba), .val (.ref bp), .val (.ref b1), .val (.ref b2)] [(.ref b1), (.ref b2)])) X302 hx rfl rfl rfl (pc0 := 150) (pc' := 153) (same := false) rfl (hb hby at_150) rfl (decide_eq_false fun q => ne_b1_b2.symm (Value.ref.inj q)) (by decide) (by decide) ?_
      show Steps p.tables e below (T302.setTop (mkF m 153 #[.val (.int p1), .val (.int p2), .val (.int (2 : Int32)), .val (.ref ba), .val (.ref bp), .val (.ref b1), .val (.ref b2)] [])) _
      refine XS.aload X302.here hx rfl (hb hby at_153) rfl rfl ?_
      show Steps p.tables e below (T302.setTop (mkF m 155 #[.val (.int p1), .val (.int p2), .val (.int (2 : Int32)), .val (.ref ba), .val (.ref bp), .val (.ref b1), .val (.ref b2)] [(.ref b2)])) _
      refine XS.aloadN X302.here hx rfl (hb hby at_155) rfl rfl ?_
      show Steps p.tables e below (T302.setTop (mkF m 156 #[.val (.int p1), .val (.int p2), .val (.int (2 : Int32)), .val (.ref ba), .val (.ref bp), .val (.ref b1), .val (.ref b2)] [(.ref ba), (.ref b2)])) _
      refine Jvm.RoadKit.acmp (g := (mkF m 156 #[.val (.int p1), .val (.int p2), .val (.int (2 : Int32)), .val (.ref ba), .val (.ref bp), .val (.ref b1), .val (.ref b2)] [(.ref ba), (.ref b2)])) X302 hx rfl rfl rfl (pc0 := 156) (pc' := 161) (same := false) rfl (hb hby at_156) rfl (decide_eq_false fun q => ne_ba_b2.symm (Value.ref.inj q)) (by decide) (by decide) ?_
      show Steps p.tables e below (T302.setTop (mkF m 161 #[.val (.int p1), .val (.int p2), .val (.int (2 : Int32)), .val (.ref ba), .val (.ref bp), .val (.ref b1), .val (.ref b2)] [])) _
      refine XS.aload X302.here hx rfl (hb hby at_161) rfl rfl ?_
      show Steps p.tables e below (T302.setTop (mkF m 163 #[.val (.int p1), .val (.int p2), .val (.int (2 : Int32)), .val (.ref ba), .val (.ref bp), .val (.ref b1), .val (.ref b2)] [(.ref b2)])) _
      refine XS.iloadN X302.here hx rfl (hb hby at_163) rfl ?_
      show Steps p.tables e below (T302.setTop (mkF m 164 #[.val (.int p1), .val (.int p2), .val (.int (2 : Int32)), .val (.ref ba), .val (.ref bp), .val (.ref b1), .val (.ref b2)] [(.int (2 : Int32)), (.ref b2)])) _
      refine XS.iloadN X302.here hx rfl (hb hby at_164) rfl ?_
      show Steps p.tables e below (T302.setTop (mkF m 165 #[.val (.int p1), .val (.int p2), .val (.int (2 : Int32)), .val (.ref ba), .val (.ref bp), .val (.ref b1), .val (.ref b2)] [(.int p2), (.int (2 : Int32)), (.ref b2)])) _
      refine st316 _ ?_
      exact k_)
    obtain ⟨fs, hr, hrun, hended, hWr, hW1, hW2, hsame⟩ := Jvm.Stand.leaveW (s := s) X316 hS253' (by rw [e316]; exact hk315) (v := some (.int (1 : Int32))) (fun h => by rw [Bd.returns] at h; cases h)
    refine ⟨_, _, pre317 _ ?_, hrun, hended, _, _, rfl, ?_, hWr, hW1, hW2, hsame.mono (by decide) (by decide)⟩
    · show Steps p.tables e below (T316.setTop (mkF m 168 #[.val (.int p1), .val (.int p2), .val (.int (2 : Int32)), .val (.ref ba), .val (.ref bp), .val (.ref b1), .val (.ref b2)] [(.int (1 : Int32))])) _
      exact retN X316 hx (t := .boolean) Bd.returns (by simp) (hb hby at_168) hr
    · show Qrm0 Z p1 p2 h0 n0 _ T316.heap _
      rw [e316]
      exact ⟨rfl, N316⟩
  · skip
    subst q
    obtain ⟨T318, h318, k_ba, X318, e318, Ext_ba, A_ba, E_ba, st318⟩ := newPE X0 hx hZ (hw _ (List.mem_of_getElem? (i := 1) rfl)) e0 (g := (mkF m 8 #[.val (.int p1), .val (.int p2), .val (.int (3 : Int32)), .unset, .unset, .unset, .unset] [(.int (3 : Int32))])) rfl (hb hby at_8) rfl (by decide) (cap := 3) (by decide) (by decide) (by decide) (by decide) (ad := "[B") (by decide)
    obtain ⟨ba, eq_ba⟩ : ∃ z, z = h0.size := ⟨_, rfl⟩
    rw [← eq_ba] at A_ba E_ba st318
    have g_ba : n0 ≤ ba := Nat.le_trans Z0 (Nat.le_of_eq eq_ba.symm)
    have Z319 : n0 ≤ h318.size := Nat.le_trans Z0 (Ext_ba.1)
    have V_ba : Arv Z h318 ba k_ba .byte (3 : Int32) [(.int (0 : Int32)), (.int (0 : Int32)), (.int (0 : Int32))] (.int (0 : Int32)) := (Arv.new A_ba (by decide)).pad (pad_rep [] (.int (0 : Int32)) 3)
    obtain ⟨_, _, ⟨T320, L320, k320, n320⟩, -, X320, ⟨Lc320, hQ320, l320, y320, z320⟩, st320⟩ := Jvm.LawKit.callS X318 hx (y := (⟨"com/example/ledgerpost/ledgerpost/PayloadOfBytesPinLaw", "at", "(II)B"⟩ : MethodName)) hown (mvT hZ (hw _ (List.mem_of_getElem? (i := 65) rfl))) (mvT hZ (hw _ (List.mem_of_getElem? (i := 66) rfl))) (mvT hZ (hw _ (List.mem_of_getElem? (i := 60) rfl))) (mvT hZ (hw _ (List.mem_of_getElem? (i := 67) rfl))) (by decide) (backOf (W := 2) (rmA l Z a0 hw [] p2 (0 : Int32) h318 n0 Z319 ) hZ (hw _ (List.mem_of_getElem? (i := 67) rfl)) (hw _ (List.mem_of_getElem? (i := 60) rfl)) (by decide) (by decide)) (g := (mkF m 19 #[.val (.int p1), .val (.int p2), .val (.int (3 : Int32)), .val (.ref ba), .unset, .unset, .unset] [(.int (0 : Int32)), (.int p2), (.int (0 : Int32)), (.ref ba)])) rfl (by rw [hml]; rfl) (argsL := [(.int p2), (.int (0 : Int32))]) (rest := [(.int (0 : Int32)), (.ref ba)]) (lenOf pd_2 rfl) rfl (by show 2 * 0 + _ ≤ _; exact Nat.le_of_eq rfl) (hb hby at_19) (fun _ _ => ⟨rfl, e318, (by decide : 1 + 0 ≤ _), (by decide : 3 + 0 ≤ _)⟩)
    dsimp only [Pt.U, Pt.locs, Pt.cells, Pt.slots] at X320 l320 y320 z320 st320 hQ320
    subst l320 y320 z320
    obtain ⟨rfl, N320q, e320⟩ := hQ320
    have N320 := Fr.app N0 N320q
    obtain ⟨cl321, Ar321, qk321, Sz321, Ng321, Hs321, Gs321⟩ := V_ba
    have hin321 : ¬ ((0 : Int32) < 0 ∨ cl321.slots.size ≤ ((0 : Int32)).toNatClampNeg) := inb_of Sz321 ⟨by decide, by decide⟩
    obtain ⟨T322, h322, X322, e322, W322, st322⟩ := stB X320 hx hZ e320 Ar321 (j := (0 : Int32)) hin321 (g := (mkF m 22 #[.val (.int p1), .val (.int p2), .val (.int (3 : Int32)), .val (.ref ba), .unset, .unset, .unset] [(.int (own_at8 p2 (0 : Int32))), (.int (0 : Int32)), (.ref ba)])) rfl rfl (hb hby at_22)
    have E_ba_323 := E_ba.wr W322
    have V_ba_322 : Arv Z h322 ba k_ba .byte (3 : Int32) [(.int (nar .byte (own_at8 p2 (0 : Int32)))), (.int (0 : Int32)), (.int (0 : Int32))] (.int (0 : Int32)) := Arv.set Ar321 qk321 Sz321 Ng321 Hs321 Gs321 (fits_nar_byte _) W322 0 rfl (Nat.le_of_ble_eq_true rfl)
    have N322 := Fr.snoc X322 N320 g_ba
    have Z324 : n0 ≤ h322.size := Nat.le_trans Z319 ((Keep.of_wr W322).1)
    obtain ⟨_, _, ⟨T325, L325, k325, n325⟩, -, X325, ⟨Lc325, hQ325, l325, y325, z325⟩, st325⟩ := Jvm.LawKit.callS X322 hx (y := (⟨"com/example/ledgerpost/ledgerpost/PayloadOfBytesPinLaw", "at", "(II)B"⟩ : MethodName)) hown (mvT hZ (hw _ (List.mem_of_getElem? (i := 65) rfl))) (mvT hZ (hw _ (List.mem_of_getElem? (i := 66) rfl))) (mvT hZ (hw _ (List.mem_of_getElem? (i := 60) rfl))) (mvT hZ (hw _ (List.mem_of_getElem? (i := 67) rfl))) (by decide) (backOf (W := 2) (rmA l Z a0 hw [] p2 (1 : Int32) h322 n0 Z324 ) hZ (hw _ (List.mem_of_getElem? (i := 67) rfl)) (hw _ (List.mem_of_getElem? (i := 60) rfl)) (by decide) (by decide)) (g := (mkF m 32 #[.val (.int p1), .val (.int p2), .val (.int (3 : Int32)), .val (.ref ba), .unset, .unset, .unset] [(.int (1 : Int32)), (.int p2), (.int (1 : Int32)), (.ref ba)])) rfl (by rw [hml]; rfl) (argsL := [(.int p2), (.int (1 : Int32))]) (rest := [(.int (1 : Int32)), (.ref ba)]) (lenOf pd_2 rfl) rfl (by show 2 * 0 + _ ≤ _; exact Nat.le_of_eq rfl) (hb hby at_32) (fun _ _ => ⟨rfl, e322, (by decide : 1 + 0 ≤ _), (by decide : 3 + 0 ≤ _)⟩)
    dsimp only [Pt.U, Pt.locs, Pt.cells, Pt.slots] at X325 l325 y325 z325 st325 hQ325
    subst l325 y325 z325
    obtain ⟨rfl, N325q, e325⟩ := hQ325
    have N325 := Fr.app N322 N325q
    obtain ⟨cl326, Ar326, qk326, Sz326, Ng326, Hs326, Gs326⟩ := V_ba_322
    have hin326 : ¬ ((1 : Int32) < 0 ∨ cl326.slots.size ≤ ((1 : Int32)).toNatClampNeg) := inb_of Sz326 ⟨by decide, by decide⟩
    obtain ⟨T327, h327, X327, e327, W327, st327⟩ := stB X325 hx hZ e325 Ar326 (j := (1 : Int32)) hin326 (g := (mkF m 35 #[.val (.int p1), .val (.int p2), .val (.int (3 : Int32)), .val (.ref ba), .unset, .unset, .unset] [(.int (own_at8 p2 (1 : Int32))), (.int (1 : Int32)), (.ref ba)])) rfl rfl (hb hby at_35)
    have E_ba_328 := E_ba_323.wr W327
    have V_ba_327 : Arv Z h327 ba k_ba .byte (3 : Int32) [(.int (nar .byte (own_at8 p2 (0 : Int32)))), (.int (nar .byte (own_at8 p2 (1 : Int32)))), (.int (0 : Int32))] (.int (0 : Int32)) := Arv.set Ar326 qk326 Sz326 Ng326 Hs326 Gs326 (fits_nar_byte _) W327 1 rfl (Nat.le_of_ble_eq_true rfl)
    have N327 := Fr.snoc X327 N325 g_ba
    have Z329 : n0 ≤ h327.size := Nat.le_trans Z324 ((Keep.of_wr W327).1)
    obtain ⟨_, _, ⟨T330, L330, k330, n330⟩, -, X330, ⟨Lc330, hQ330, l330, y330, z330⟩, st330⟩ := Jvm.LawKit.callS X327 hx (y := (⟨"com/example/ledgerpost/ledgerpost/PayloadOfBytesPinLaw", "at", "(II)B"⟩ : MethodName)) hown (mvT hZ (hw _ (List.mem_of_getElem? (i := 65) rfl))) (mvT hZ (hw _ (List.mem_of_getElem? (i := 66) rfl))) (mvT hZ (hw _ (List.mem_of_getElem? (i := 60) rfl))) (mvT hZ (hw _ (List.mem_of_getElem? (i := 67) rfl))) (by decide) (backOf (W := 2) (rmA l Z a0 hw [] p2 (2 : Int32) h327 n0 Z329 ) hZ (hw _ (List.mem_of_getElem? (i := 67) rfl)) (hw _ (List.mem_of_getElem? (i := 60) rfl)) (by decide) (by decide)) (g := (mkF m 45 #[.val (.int p1), .val (.int p2), .val (.int (3 : Int32)), .val (.ref ba), .unset, .unset, .unset] [(.int (2 : Int32)), (.int p2), (.int (2 : Int32)), (.ref ba)])) rfl (by rw [hml]; rfl) (argsL := [(.int p2), (.int (2 : Int32))]) (rest := [(.int (2 : Int32)), (.ref ba)]) (lenOf pd_2 rfl) rfl (by show 2 * 0 + _ ≤ _; exact Nat.le_of_eq rfl) (hb hby at_45) (fun _ _ => ⟨rfl, e327, (by decide : 1 + 0 ≤ _), (by decide : 3 + 0 ≤ _)⟩)
    dsimp only [Pt.U, Pt.locs, Pt.cells, Pt.slots] at X330 l330 y330 z330 st330 hQ330
    subst l330 y330 z330
    obtain ⟨rfl, N330q, e330⟩ := hQ330
    have N330 := Fr.app N327 N330q
    obtain ⟨cl331, Ar331, qk331, Sz331, Ng331, Hs331, Gs331⟩ := V_ba_327
    have hin331 : ¬ ((2 : Int32) < 0 ∨ cl331.slots.size ≤ ((2 : Int32)).toNatClampNeg) := inb_of Sz331 ⟨by decide, by decide⟩
    obtain ⟨T332, h332, X332, e332, W332, st332⟩ := stB X330 hx hZ e330 Ar331 (j := (2 : Int32)) hin331 (g := (mkF m 48 #[.val (.int p1), .val (.int p2), .val (.int (3 : Int32)), .val (.ref ba), .unset, .unset, .unset] [(.int (own_at8 p2 (2 : Int32))), (.int (2 : Int32)), (.ref ba)])) rfl rfl (hb hby at_48)
    have E_ba_333 := E_ba_328.wr W332
    have V_ba_332 : Arv Z h332 ba k_ba .byte (3 : Int32) [(.int (nar .byte (own_at8 p2 (0 : Int32)))), (.int (nar .byte (own_at8 p2 (1 : Int32)))), (.int (nar .byte (own_at8 p2 (2 : Int32))))] (.int (0 : Int32)) := Arv.set Ar331 qk331 Sz331 Ng331 Hs331 Gs331 (fits_nar_byte _) W332 2 rfl (Nat.le_of_ble_eq_true rfl)
    have N332 := Fr.snoc X332 N330 g_ba
    have Z334 : n0 ≤ h332.size := Nat.le_trans Z329 ((Keep.of_wr W332).1)
    have lt_ba := V_ba_332.lt
    obtain ⟨_, _, ⟨T335, L335, k335, n335⟩, -, X335, hS335, hle335, ⟨Lc335, hQ335, l335, y335, z335⟩, st335⟩ := callSS (s := s) X332 hx (y := (⟨"com/example/ledgerpost/ledgerpost/Payload", "ofBytes", "([B)Lcom/example/ledgerpost/ledgerpost/Payload;"⟩ : MethodName)) hown (mvT hZ (hw _ (List.mem_of_getElem? (i := 2) rfl))) (mvT hZ (hw _ (List.mem_of_getElem? (i := 3) rfl))) (mvT hZ (hw _ (List.mem_of_getElem? (i := 4) rfl))) (mvT hZ (hw _ (List.mem_of_getElem? (i := 5) rfl))) (by decide) (backOfS (W := 0) (rmO l Z a0 hw [] ba k_ba (3 : Int32) [(.int (nar .byte (own_at8 p2 (0 : Int32)))), (.int (nar .byte (own_at8 p2 (1 : Int32)))), (.int (nar .byte (own_at8 p2 (2 : Int32))))] h332 n0 Z334 V_ba_332 E_ba_333 (by decide)) hZ (hw _ (List.mem_of_getElem? (i := 5) rfl)) (hw _ (List.mem_of_getElem? (i := 4) rfl)) (by decide) (by decide)) (g := (mkF m 63 #[.val (.int p1), .val (.int p2), .val (.int (3 : Int32)), .val (.ref ba), .unset, .unset, .unset] [(.ref ba)])) rfl (by rw [hml]; rfl) (argsL := [(.ref ba)]) (rest := []) (lenOf pd_3 rfl) rfl (by show 2 * 0 + _ ≤ _; exact Nat.le_of_eq rfl) (hb hby at_63) (fun _ _ => ⟨rfl, e332, (by decide : 1 + 4 ≤ _), (by decide : 3 + 30 ≤ _)⟩)
    dsimp only [Pt.U, Pt.locs, Pt.cells, Pt.slots] at X335 l335 y335 z335 st335 hQ335 hS335 hle335
    subst l335 y335 z335
    have hle335' : h332.size ≤ T335.heap.size := by have q := hle335; rw [e332] at q; exact q
    obtain ⟨X335', hS335', hZ335, hown335⟩ := rebS (s := s) (vm0 := s.vm) ((State.WarmedH.refl s).since 0) (Nat.zero_le _) X335 hS335 hle335' hZ hown
    obtain ⟨bp, cc, rfl, N335q, K335, E335, F0335, F1335, V335, Ec335, lb335, lc335⟩ := hQ335
    have N335 := Fr.app N332 N335q
    have V_ba_336 := V_ba_332.keep K335 nin0
    have E_ba_337 := E_ba_333.keep K335
    have Z338 : n0 ≤ T335.heap.size := Nat.le_trans Z334 (K335.1)
    have ne_ba_bp : ba ≠ bp := Nat.ne_of_lt (Nat.lt_of_lt_of_le lt_ba lb335)
    have ne_ba_cc : ba ≠ cc := Nat.ne_of_lt (Nat.lt_of_lt_of_le lt_ba lc335)
    obtain ⟨cq339, kq339, q339a, q339b, q339c⟩ := isOf hZ335 rfl E335
    obtain ⟨_, _, ⟨T339, L339, k339, n339⟩, -, X339, ⟨Lc339, hQ339, l339, y339, z339⟩, st339⟩ := X335'.virtualBack hx (y := (⟨"com/example/ledgerpost/ledgerpost/Payload", "isText", "()Z"⟩ : MethodName)) (z := (⟨"com/example/ledgerpost/ledgerpost/Payload", "isText", "()Z"⟩ : MethodName)) hown335 (mvT hZ335 (hw _ (List.mem_of_getElem? (i := 38) rfl))) (mvT hZ335 (hw _ (List.mem_of_getElem? (i := 39) rfl))) (notFace_of_selects (args := #[]) (mvT hZ335 (hw _ (List.mem_of_getElem? (i := 41) rfl)))) (mvT hZ335 (hw _ (List.mem_of_getElem? (i := 41) rfl))) (mvT hZ335 (hw _ (List.mem_of_getElem? (i := 40) rfl))) (by decide) (backOf (W := 0) (rmI l Z a0 hw [] bp T335.heap n0 Z338 F0335) hZ335 (hw _ (List.mem_of_getElem? (i := 42) rfl)) (hw _ (List.mem_of_getElem? (i := 4) rfl)) (by decide) (by decide)) q339a q339c (g := (mkF m 70 #[.val (.int p1), .val (.int p2), .val (.int (3 : Int32)), .val (.ref ba), .val (.ref bp), .unset, .unset] [(.ref bp)])) rfl (by rw [hml]; rfl) (Steps.refl _) (argsL := []) (rest := []) (lenOf pd_4 rfl) rfl (by show 2 * 0 + _ ≤ _; exact Nat.le_of_eq rfl) (hb hby at_70) (fun _ _ => ⟨rfl, rfl, (by decide : 5 + 0 ≤ _), (by decide : 33 + 0 ≤ _)⟩)
    dsimp only [Pt.U, Pt.locs, Pt.cells, Pt.slots] at X339 l339 y339 z339 st339 hQ339
    subst l339 y339 z339
    obtain ⟨rfl, N339q, e339⟩ := hQ339
    have N339 := Fr.app N335 N339q
    obtain ⟨cq340, kq340, q340a, q340b, q340c⟩ := isOf hZ335 e339 E335
    obtain ⟨_, _, ⟨T340, L340, k340, n340⟩, -, X340, ⟨Lc340, hQ340, l340, y340, z340⟩, st340⟩ := X339.virtualBack hx (y := (⟨"com/example/ledgerpost/ledgerpost/Payload", "text", "()Ljava/lang/String;"⟩ : MethodName)) (z := (⟨"com/example/ledgerpost/ledgerpost/Payload", "text", "()Ljava/lang/String;"⟩ : MethodName)) hown335 (mvT hZ335 (hw _ (List.mem_of_getElem? (i := 43) rfl))) (mvT hZ335 (hw _ (List.mem_of_getElem? (i := 44) rfl))) (notFace_of_selects (args := #[]) (mvT hZ335 (hw _ (List.mem_of_getElem? (i := 46) rfl)))) (mvT hZ335 (hw _ (List.mem_of_getElem? (i := 46) rfl))) (mvT hZ335 (hw _ (List.mem_of_getElem? (i := 45) rfl))) (by decide) (backOf (W := 0) (rmT l Z a0 hw [] bp T335.heap n0 Z338 F0335) hZ335 (hw _ (List.mem_of_getElem? (i := 47) rfl)) (hw _ (List.mem_of_getElem? (i := 4) rfl)) (by decide) (by decide)) q340a q340c (g := (mkF m 80 #[.val (.int p1), .val (.int p2), .val (.int (3 : Int32)), .val (.ref ba), .val (.ref bp), .unset, .unset] [(.ref bp)])) rfl (by rw [hml]; rfl) (Steps.refl _) (argsL := []) (rest := []) (lenOf pd_5 rfl) rfl (by show 2 * 0 + _ ≤ _; exact Nat.le_of_eq rfl) (hb hby at_80) (fun _ _ => ⟨rfl, e339, (by decide : 5 + 0 ≤ _), (by decide : 33 + 0 ≤ _)⟩)
    dsimp only [Pt.U, Pt.locs, Pt.cells, Pt.slots] at X340 l340 y340 z340 st340 hQ340
    subst l340 y340 z340
    obtain ⟨rfl, N340q, e340⟩ := hQ340
    have N340 := Fr.app N339 N340q
    obtain ⟨cq341, kq341, q341a, q341b, q341c⟩ := isOf hZ335 e340 E335
    obtain ⟨_, _, ⟨T341, L341, k341, n341⟩, -, X341, ⟨Lc341, hQ341, l341, y341, z341⟩, st341⟩ := X340.virtualBack hx (y := (⟨"com/example/ledgerpost/ledgerpost/Payload", "length", "()J"⟩ : MethodName)) (z := (⟨"com/example/ledgerpost/ledgerpost/Payload", "length", "()J"⟩ : MethodName)) hown335 (mvT hZ335 (hw _ (List.mem_of_getElem? (i := 48) rfl))) (mvT hZ335 (hw _ (List.mem_of_getElem? (i := 49) rfl))) (notFace_of_selects (args := #[]) (mvT hZ335 (hw _ (List.mem_of_getElem? (i := 51) rfl)))) (mvT hZ335 (hw _ (List.mem_of_getElem? (i := 51) rfl))) (mvT hZ335 (hw _ (List.mem_of_getElem? (i := 50) rfl))) (by decide) (backOf (W := 0) (rmL l Z a0 hw [] bp cc k_ba (3 : Int32) [(.int (nar .byte (own_at8 p2 (0 : Int32)))), (.int (nar .byte (own_at8 p2 (1 : Int32)))), (.int (nar .byte (own_at8 p2 (2 : Int32))))] T335.heap n0 Z338 F0335 F1335 V335) hZ335 (hw _ (List.mem_of_getElem? (i := 52) rfl)) (hw _ (List.mem_of_getElem? (i := 4) rfl)) (by decide) (by decide)) q341a q341c (g := (mkF m 90 #[.val (.int p1), .val (.int p2), .val (.int (3 : Int32)), .val (.ref ba), .val (.ref bp), .unset, .unset] [(.ref bp)])) rfl (by rw [hml]; rfl) (Steps.refl _) (argsL := []) (rest := []) (lenOf pd_6 rfl) rfl (by show 2 * 0 + _ ≤ _; exact Nat.le_of_eq rfl) (hb hby at_90) (fun _ _ => ⟨rfl, e340, (by decide : 5 + 0 ≤ _), (by decide : 33 + 0 ≤ _)⟩)
    dsimp only [Pt.U, Pt.locs, Pt.cells, Pt.slots] at X341 l341 y341 z341 st341 hQ341
    subst l341 y341 z341
    obtain ⟨rfl, N341q, e341⟩ := hQ341
    have N341 := Fr.app N340 N341q
    have lt_ba_b1 := E_ba_337.lt
    have lt_bp_b1 := E335.lt
    have lt_cc_b1 := Ec335.lt
    obtain ⟨cq342, kq342, q342a, q342b, q342c⟩ := isOf hZ335 e341 E335
    obtain ⟨_, _, ⟨T342, L342, k342, n342⟩, -, X342, ⟨Lc342, hQ342, l342, y342, z342⟩, st342⟩ := X341.virtualBack hx (y := (⟨"com/example/ledgerpost/ledgerpost/Payload", "bytes", "()[B"⟩ : MethodName)) (z := (⟨"com/example/ledgerpost/ledgerpost/Payload", "bytes", "()[B"⟩ : MethodName)) hown335 (mvT hZ335 (hw _ (List.mem_of_getElem? (i := 53) rfl))) (mvT hZ335 (hw _ (List.mem_of_getElem? (i := 54) rfl))) (notFace_of_selects (args := #[]) (mvT hZ335 (hw _ (List.mem_of_getElem? (i := 56) rfl)))) (mvT hZ335 (hw _ (List.mem_of_getElem? (i := 56) rfl))) (mvT hZ335 (hw _ (List.mem_of_getElem? (i := 55) rfl))) (by decide) (backOf (W := 0) (rmB l Z a0 hw [] bp cc k_ba (3 : Int32) [(.int (nar .byte (own_at8 p2 (0 : Int32)))), (.int (nar .byte (own_at8 p2 (1 : Int32)))), (.int (nar .byte (own_at8 p2 (2 : Int32))))] T335.heap n0 Z338 F0335 F1335 V335 Ec335 (by decide)) hZ335 (hw _ (List.mem_of_getElem? (i := 57) rfl)) (hw _ (List.mem_of_getElem? (i := 4) rfl)) (by decide) (by decide)) q342a q342c (g := (mkF m 103 #[.val (.int p1), .val (.int p2), .val (.int (3 : Int32)), .val (.ref ba), .val (.ref bp), .unset, .unset] [(.ref bp)])) rfl (by rw [hml]; rfl) (Steps.refl _) (argsL := []) (rest := []) (lenOf pd_7 rfl) rfl (by show 2 * 0 + _ ≤ _; exact Nat.le_of_eq rfl) (hb hby at_103) (fun _ _ => ⟨rfl, e341, (by decide : 5 + 1 ≤ _), (by decide : 33 + 4 ≤ _)⟩)
    dsimp only [Pt.U, Pt.locs, Pt.cells, Pt.slots] at X342 l342 y342 z342 st342 hQ342
    subst l342 y342 z342
    obtain ⟨b1, rfl, N342q, K342, V342, l342, g342⟩ := hQ342
    have N342 := Fr.app N341 N342q
    have V_ba_343 := V_ba_336.keep K342 nin0
    have E_ba_344 := E_ba_337.keep K342
    have E_bp_347 := E335.keep K342
    have F0_bp_348 := F0335.keep K342 nin0
    have F1_bp_349 := F1335.keep K342 nin0
    have V_cc_350 := V335.keep K342 nin0
    have E_cc_351 := Ec335.keep K342
    have Z352 : n0 ≤ T342.heap.size := Nat.le_trans Z338 (K342.1)
    have hk353 := Nat.le_trans (Nat.le_refl _) (K342.1)
    have g_b1 := g342
    have ne_ba_b1 : ba ≠ b1 := Nat.ne_of_lt (Nat.lt_of_lt_of_le lt_ba_b1 l342)
    have ne_bp_b1 : bp ≠ b1 := Nat.ne_of_lt (Nat.lt_of_lt_of_le lt_bp_b1 l342)
    have ne_cc_b1 : cc ≠ b1 := Nat.ne_of_lt (Nat.lt_of_lt_of_le lt_cc_b1 l342)
    obtain ⟨_, _, ⟨T354, L354, k354, n354⟩, -, X354, ⟨Lc354, hQ354, l354, y354, z354⟩, st354⟩ := Jvm.LawKit.callS X342 hx (y := (⟨"com/example/ledgerpost/ledgerpost/PayloadOfBytesPinLaw", "holds", "([BII)Z"⟩ : MethodName)) hown335 (mvT hZ335 (hw _ (List.mem_of_getElem? (i := 58) rfl))) (mvT hZ335 (hw _ (List.mem_of_getElem? (i := 59) rfl))) (mvT hZ335 (hw _ (List.mem_of_getElem? (i := 60) rfl))) (mvT hZ335 (hw _ (List.mem_of_getElem? (i := 61) rfl))) (by decide) (backOf (W := 0) (rmH3 l Z a0 hw [] b1 p2 k_ba T342.heap n0 Z352 V342) hZ335 (hw _ (List.mem_of_getElem? (i := 61) rfl)) (hw _ (List.mem_of_getElem? (i := 60) rfl)) (by decide) (by decide)) (g := (mkF m 120 #[.val (.int p1), .val (.int p2), .val (.int (3 : Int32)), .val (.ref ba), .val (.ref bp), .val (.ref b1), .unset] [(.int p2), (.int (3 : Int32)), (.ref b1)])) rfl (by rw [hml]; rfl) (argsL := [(.ref b1), (.int (3 : Int32)), (.int p2)]) (rest := []) (lenOf pd_8 rfl) rfl (by show 2 * 0 + _ ≤ _; exact Nat.le_of_eq rfl) (hb hby at_120) (fun _ _ => ⟨rfl, rfl, (by decide : 6 + 0 ≤ _), (by decide : 37 + 0 ≤ _)⟩)
    dsimp only [Pt.U, Pt.locs, Pt.cells, Pt.slots] at X354 l354 y354 z354 st354 hQ354
    subst l354 y354 z354
    obtain ⟨rfl, N354q, e354⟩ := hQ354
    have N354 := Fr.app N342 N354q
    obtain ⟨_, _, ⟨T355, L355, k355, n355⟩, -, X355, ⟨Lc355, hQ355, l355, y355, z355⟩, st355⟩ := Jvm.LawKit.callS X354 hx (y := (⟨"com/example/ledgerpost/ledgerpost/PayloadOfBytesPinLaw", "flip", "([BI)V"⟩ : MethodName)) hown335 (mvT hZ335 (hw _ (List.mem_of_getElem? (i := 62) rfl))) (mvT hZ335 (hw _ (List.mem_of_getElem? (i := 63) rfl))) (mvT hZ335 (hw _ (List.mem_of_getElem? (i := 60) rfl))) (mvT hZ335 (hw _ (List.mem_of_getElem? (i := 64) rfl))) (by decide) (backOf (W := 0) (rmF3 l Z a0 hw [] ba k_ba (nar .byte (own_at8 p2 (0 : Int32))) (nar .byte (own_at8 p2 (1 : Int32))) (nar .byte (own_at8 p2 (2 : Int32))) T342.heap n0 Z352 V_ba_343 g_ba) hZ335 (hw _ (List.mem_of_getElem? (i := 64) rfl)) (hw _ (List.mem_of_getElem? (i := 60) rfl)) (by decide) (by decide)) (g := (mkF m 130 #[.val (.int p1), .val (.int p2), .val (.int (3 : Int32)), .val (.ref ba), .val (.ref bp), .val (.ref b1), .unset] [(.int (3 : Int32)), (.ref ba)])) rfl (by rw [hml]; rfl) (argsL := [(.ref ba), (.int (3 : Int32))]) (rest := []) (lenOf pd_9 rfl) rfl (by show 2 * 0 + _ ≤ _; exact Nat.le_of_eq rfl) (hb hby at_130) (fun _ _ => ⟨rfl, e354, (by decide : 6 + 0 ≤ _), (by decide : 37 + 0 ≤ _)⟩)
    dsimp only [Pt.U, Pt.locs, Pt.cells, Pt.slots] at X355 l355 y355 z355 st355 hQ355
    subst l355 y355 z355
    obtain ⟨rfl, N355q, K355⟩ := hQ355
    have N355 := Fr.app N354 N355q
    have E_ba_356 := E_ba_344.keep K355
    have E_bp_359 := E_bp_347.keep K355
    have F0_bp_360 := F0_bp_348.keep K355 (ninS (Ne.symm ne_ba_bp) nin0)
    have F1_bp_361 := F1_bp_349.keep K355 (ninS (Ne.symm ne_ba_bp) nin0)
    have V_cc_362 := V_cc_350.keep K355 (ninS (Ne.symm ne_ba_cc) nin0)
    have E_cc_363 := E_cc_351.keep K355
    have V_b1_364 := V342.keep K355 (ninS (Ne.symm ne_ba_b1) nin0)
    have Z368 : n0 ≤ T355.heap.size := Nat.le_trans Z352 (K355.1)
    have hk369 := Nat.le_trans hk353 (K355.1)
    have ltb1 := V_b1_364.lt
    obtain ⟨_, _, ⟨T370, L370, k370, n370⟩, -, X370, ⟨Lc370, hQ370, l370, y370, z370⟩, st370⟩ := Jvm.LawKit.callS X355 hx (y := (⟨"com/example/ledgerpost/ledgerpost/PayloadOfBytesPinLaw", "flip", "([BI)V"⟩ : MethodName)) hown335 (mvT hZ335 (hw _ (List.mem_of_getElem? (i := 62) rfl))) (mvT hZ335 (hw _ (List.mem_of_getElem? (i := 63) rfl))) (mvT hZ335 (hw _ (List.mem_of_getElem? (i := 60) rfl))) (mvT hZ335 (hw _ (List.mem_of_getElem? (i := 64) rfl))) (by decide) (backOf (W := 0) (rmF3 l Z a0 hw [] b1 k_ba (nar .byte (own_at8 p2 (0 : Int32))) (nar .byte (own_at8 p2 (1 : Int32))) (nar .byte (own_at8 p2 (2 : Int32))) T355.heap n0 Z368 V_b1_364 g_b1) hZ335 (hw _ (List.mem_of_getElem? (i := 64) rfl)) (hw _ (List.mem_of_getElem? (i := 60) rfl)) (by decide) (by decide)) (g := (mkF m 136 #[.val (.int p1), .val (.int p2), .val (.int (3 : Int32)), .val (.ref ba), .val (.ref bp), .val (.ref b1), .unset] [(.int (3 : Int32)), (.ref b1)])) rfl (by rw [hml]; rfl) (argsL := [(.ref b1), (.int (3 : Int32))]) (rest := []) (lenOf pd_9 rfl) rfl (by show 2 * 0 + _ ≤ _; exact Nat.le_of_eq rfl) (hb hby at_136) (fun _ _ => ⟨rfl, rfl, (by decide : 6 + 0 ≤ _), (by decide : 37 + 0 ≤ _)⟩)
    dsimp only [Pt.U, Pt.locs, Pt.cells, Pt.slots] at X370 l370 y370 z370 st370 hQ370
    subst l370 y370 z370
    obtain ⟨rfl, N370q, K370⟩ := hQ370
    have N370 := Fr.app N355 N370q
    have E_ba_371 := E_ba_356.keep K370
    have E_bp_374 := E_bp_359.keep K370
    have F0_bp_375 := F0_bp_360.keep K370 (ninS ne_bp_b1 nin0)
    have F1_bp_376 := F1_bp_361.keep K370 (ninS ne_bp_b1 nin0)
    have V_cc_377 := V_cc_362.keep K370 (ninS ne_cc_b1 nin0)
    have E_cc_378 := E_cc_363.keep K370
    have Z382 : n0 ≤ T370.heap.size := Nat.le_trans Z368 (K370.1)
    have hk383 := Nat.le_trans hk369 (K370.1)
    have lt_ba_b2 := E_ba_371.lt
    have lt_bp_b2 := E_bp_374.lt
    have lt_cc_b2 := E_cc_378.lt
    have lt_b1_b2 := Nat.lt_of_lt_of_le ltb1 K370.1
    obtain ⟨cq384, kq384, q384a, q384b, q384c⟩ := isOf hZ335 rfl E_bp_374
    obtain ⟨_, _, ⟨T384, L384, k384, n384⟩, -, X384, ⟨Lc384, hQ384, l384, y384, z384⟩, st384⟩ := X370.virtualBack hx (y := (⟨"com/example/ledgerpost/ledgerpost/Payload", "bytes", "()[B"⟩ : MethodName)) (z := (⟨"com/example/ledgerpost/ledgerpost/Payload", "bytes", "()[B"⟩ : MethodName)) hown335 (mvT hZ335 (hw _ (List.mem_of_getElem? (i := 53) rfl))) (mvT hZ335 (hw _ (List.mem_of_getElem? (i := 54) rfl))) (notFace_of_selects (args := #[]) (mvT hZ335 (hw _ (List.mem_of_getElem? (i := 56) rfl)))) (mvT hZ335 (hw _ (List.mem_of_getElem? (i := 56) rfl))) (mvT hZ335 (hw _ (List.mem_of_getElem? (i := 55) rfl))) (by decide) (backOf (W := 0) (rmB l Z a0 hw [] bp cc k_ba (3 : Int32) [(.int (nar .byte (own_at8 p2 (0 : Int32)))), (.int (nar .byte (own_at8 p2 (1 : Int32)))), (.int (nar .byte (own_at8 p2 (2 : Int32))))] T370.heap n0 Z382 F0_bp_375 F1_bp_376 V_cc_377 E_cc_378 (by decide)) hZ335 (hw _ (List.mem_of_getElem? (i := 57) rfl)) (hw _ (List.mem_of_getElem? (i := 4) rfl)) (by decide) (by decide)) q384a q384c (g := (mkF m 141 #[.val (.int p1), .val (.int p2), .val (.int (3 : Int32)), .val (.ref ba), .val (.ref bp), .val (.ref b1), .unset] [(.ref bp)])) rfl (by rw [hml]; rfl) (Steps.refl _) (argsL := []) (rest := []) (lenOf pd_7 rfl) rfl (by show 2 * 0 + _ ≤ _; exact Nat.le_of_eq rfl) (hb hby at_141) (fun _ _ => ⟨rfl, rfl, (by decide : 6 + 1 ≤ _), (by decide : 37 + 4 ≤ _)⟩)
    dsimp only [Pt.U, Pt.locs, Pt.cells, Pt.slots] at X384 l384 y384 z384 st384 hQ384
    subst l384 y384 z384
    obtain ⟨b2, rfl, N384q, K384, V384, l384, g384⟩ := hQ384
    have N384 := Fr.app N370 N384q
    have E_ba_385 := E_ba_371.keep K384
    have E_bp_388 := E_bp_374.keep K384
    have F0_bp_389 := F0_bp_375.keep K384 nin0
    have F1_bp_390 := F1_bp_376.keep K384 nin0
    have V_cc_391 := V_cc_377.keep K384 nin0
    have E_cc_392 := E_cc_378.keep K384
    have Z396 : n0 ≤ T384.heap.size := Nat.le_trans Z382 (K384.1)
    have hk397 := Nat.le_trans hk383 (K384.1)
    have ne_ba_b2 : ba ≠ b2 := Nat.ne_of_lt (Nat.lt_of_lt_of_le lt_ba_b2 l384)
    have ne_b1_b2 : b1 ≠ b2 := Nat.ne_of_lt (Nat.lt_of_lt_of_le lt_b1_b2 l384)
    obtain ⟨_, _, ⟨T398, L398, k398, n398⟩, -, X398, ⟨Lc398, hQ398, l398, y398, z398⟩, st398⟩ := Jvm.LawKit.callS X384 hx (y := (⟨"com/example/ledgerpost/ledgerpost/PayloadOfBytesPinLaw", "holds", "([BII)Z"⟩ : MethodName)) hown335 (mvT hZ335 (hw _ (List.mem_of_getElem? (i := 58) rfl))) (mvT hZ335 (hw _ (List.mem_of_getElem? (i := 59) rfl))) (mvT hZ335 (hw _ (List.mem_of_getElem? (i := 60) rfl))) (mvT hZ335 (hw _ (List.mem_of_getElem? (i := 61) rfl))) (by decide) (backOf (W := 0) (rmH3 l Z a0 hw [] b2 p2 k_ba T384.heap n0 Z396 V384) hZ335 (hw _ (List.mem_of_getElem? (i := 61) rfl)) (hw _ (List.mem_of_getElem? (i := 60) rfl)) (by decide) (by decide)) (g := (mkF m 165 #[.val (.int p1), .val (.int p2), .val (.int (3 : Int32)), .val (.ref ba), .val (.ref bp), .val (.ref b1), .val (.ref b2)] [(.int p2), (.int (3 : Int32)), (.ref b2)])) rfl (by rw [hml]; rfl) (argsL := [(.ref b2), (.int (3 : Int32)), (.int p2)]) (rest := []) (lenOf pd_8 rfl) rfl (by show 2 * 0 + _ ≤ _; exact Nat.le_of_eq rfl) (hb hby at_165) (fun _ _ => ⟨rfl, rfl, (by decide : 7 + 0 ≤ _), (by decide : 41 + 0 ≤ _)⟩)
    dsimp only [Pt.U, Pt.locs, Pt.cells, Pt.slots] at X398 l398 y398 z398 st398 hQ398
    subst l398 y398 z398
    obtain ⟨rfl, N398q, e398⟩ := hQ398
    have N398 := Fr.app N384 N398q
    have pre399 : ∀ t_, Steps p.tables e below (T398.setTop (mkF m 168 #[.val (.int p1), .val (.int p2), .val (.int (3 : Int32)), .val (.ref ba), .val (.ref bp), .val (.ref b1), .val (.ref b2)] [(.int (1 : Int32))])) t_ → Steps p.tables e below (s₁.setTop (entryFrame m #[(.int p1), (.int p2)] maxLocals)) t_ := fun t_ k_ => pre101 _ (by
      show Steps p.tables e below (s₁.setTop (mkF m 7 #[.val (.int p1), .val (.int p2), .val (.int (3 : Int32)), .unset, .unset, .unset, .unset] [])) _
      refine XS.iloadN X0.here hx rfl (hb hby at_7) rfl ?_
      show Steps p.tables e below (s₁.setTop (mkF m 8 #[.val (.int p1), .val (.int p2), .val (.int (3 : Int32)), .unset, .unset, .unset, .unset] [(.int (3 : Int32))])) _
      refine st318 _ ?_
      show Steps p.tables e below (T318.setTop (mkF m 10 #[.val (.int p1), .val (.int p2), .val (.int (3 : Int32)), .unset, .unset, .unset, .unset] [(.ref ba)])) _
      refine XS.astoreN X318.here hx rfl (hb hby at_10) rfl rfl (l' := #[.val (.int p1), .val (.int p2), .val (.int (3 : Int32)), .val (.ref ba), .unset, .unset, .unset]) rfl ?_
      show Steps p.tables e below (T318.setTop (mkF m 11 #[.val (.int p1), .val (.int p2), .val (.int (3 : Int32)), .val (.ref ba), .unset, .unset, .unset] [])) _
      refine XS.iloadN X318.here hx rfl (hb hby at_11) rfl ?_
      show Steps p.tables e below (T318.setTop (mkF m 12 #[.val (.int p1), .val (.int p2), .val (.int (3 : Int32)), .val (.ref ba), .unset, .unset, .unset] [(.int (3 : Int32))])) _
      refine XS.ifNo X318.here hx rfl (hb hby at_12) rfl ((if0 _ _).trans (tlt (by decide)).2.2.2) ?_
      show Steps p.tables e below (T318.setTop (mkF m 15 #[.val (.int p1), .val (.int p2), .val (.int (3 : Int32)), .val (.ref ba), .unset, .unset, .unset] [])) _
      refine XS.aloadN X318.here hx rfl (hb hby at_15) rfl rfl ?_
      show Steps p.tables e below (T318.setTop (mkF m 16 #[.val (.int p1), .val (.int p2), .val (.int (3 : Int32)), .val (.ref ba), .unset, .unset, .unset] [(.ref ba)])) _
      refine XS.iconst X318.here hx rfl (hb hby at_16) ?_
      show Steps p.tables e below (T318.setTop (mkF m 17 #[.val (.int p1), .val (.int p2), .val (.int (3 : Int32)), .val (.ref ba), .unset, .unset, .unset] [(.int (0 : Int32)), (.ref ba)])) _
      refine XS.iloadN X318.here hx rfl (hb hby at_17) rfl ?_
      show Steps p.tables e below (T318.setTop (mkF m 18 #[.val (.int p1), .val (.int p2), .val (.int (3 : Int32)), .val (.ref ba), .unset, .unset, .unset] [(.int p2), (.int (0 : Int32)), (.ref ba)])) _
      refine XS.iconst X318.here hx rfl (hb hby at_18) ?_
      show Steps p.tables e below (T318.setTop (mkF m 19 #[.val (.int p1), .val (.int p2), .val (.int (3 : Int32)), .val (.ref ba), .unset, .unset, .unset] [(.int (0 : Int32)), (.int p2), (.int (0 : Int32)), (.ref ba)])) _
      refine st320 _ ?_
      show Steps p.tables e below (T320.setTop (mkF m 22 #[.val (.int p1), .val (.int p2), .val (.int (3 : Int32)), .val (.ref ba), .unset, .unset, .unset] [(.int (own_at8 p2 (0 : Int32))), (.int (0 : Int32)), (.ref ba)])) _
      refine st322 _ ?_
      show Steps p.tables e below (T322.setTop (mkF m 23 #[.val (.int p1), .val (.int p2), .val (.int (3 : Int32)), .val (.ref ba), .unset, .unset, .unset] [])) _
      refine XS.iloadN X322.here hx rfl (hb hby at_23) rfl ?_
      show Steps p.tables e below (T322.setTop (mkF m 24 #[.val (.int p1), .val (.int p2), .val (.int (3 : Int32)), .val (.ref ba), .unset, .unset, .unset] [(.int (3 : Int32))])) _
      refine XS.iconst X322.here hx rfl (hb hby at_24) ?_
      show Steps p.tables e below (T322.setTop (mkF m 25 #[.val (.int p1), .val (.int p2), .val (.int (3 : Int32)), .val (.ref ba), .unset, .unset, .unset] [(.int (1 : Int32)), (.int (3 : Int32))])) _
      refine XS.icmpNo X322.here hx rfl (hb hby at_25) rfl (tlt (by decide)).2.2.2 ?_
      show Steps p.tables e below (T322.setTop (mkF m 28 #[.val (.int p1), .val (.int p2), .val (.int (3 : Int32)), .val (.ref ba), .unset, .unset, .unset] [])) _
      refine XS.aloadN X322.here hx rfl (hb hby at_28) rfl rfl ?_
      show Steps p.tables e below (T322.setTop (mkF m 29 #[.val (.int p1), .val (.int p2), .val (.int (3 : Int32)), .val (.ref ba), .unset, .unset, .unset] [(.ref ba)])) _
      refine XS.iconst X322.here hx rfl (hb hby at_29) ?_
      show Steps p.tables e below (T322.setTop (mkF m 30 #[.val (.int p1), .val (.int p2), .val (.int (3 : Int32)), .val (.ref ba), .unset, .unset, .unset] [(.int (1 : Int32)), (.ref ba)])) _
      refine XS.iloadN X322.here hx rfl (hb hby at_30) rfl ?_
      show Steps p.tables e below (T322.setTop (mkF m 31 #[.val (.int p1), .val (.int p2), .val (.int (3 : Int32)), .val (.ref ba), .unset, .unset, .unset] [(.int p2), (.int (1 : Int32)), (.ref ba)])) _
      refine XS.iconst X322.here hx rfl (hb hby at_31) ?_
      show Steps p.tables e below (T322.setTop (mkF m 32 #[.val (.int p1), .val (.int p2), .val (.int (3 : Int32)), .val (.ref ba), .unset, .unset, .unset] [(.int (1 : Int32)), (.int p2), (.int (1 : Int32)), (.ref ba)])) _
      refine st325 _ ?_
      show Steps p.tables e below (T325.setTop (mkF m 35 #[.val (.int p1), .val (.int p2), .val (.int (3 : Int32)), .val (.ref ba), .unset, .unset, .unset] [(.int (own_at8 p2 (1 : Int32))), (.int (1 : Int32)), (.ref ba)])) _
      refine st327 _ ?_
      show Steps p.tables e below (T327.setTop (mkF m 36 #[.val (.int p1), .val (.int p2), .val (.int (3 : Int32)), .val (.ref ba), .unset, .unset, .unset] [])) _
      refine XS.iloadN X327.here hx rfl (hb hby at_36) rfl ?_
      show Steps p.tables e below (T327.setTop (mkF m 37 #[.val (.int p1), .val (.int p2), .val (.int (3 : Int32)), .val (.ref ba), .unset, .unset, .unset] [(.int (3 : Int32))])) _
      refine XS.iconst X327.here hx rfl (hb hby at_37) ?_
      show Steps p.tables e below (T327.setTop (mkF m 38 #[.val (.int p1), .val (.int p2), .val (.int (3 : Int32)), .val (.ref ba), .unset, .unset, .unset] [(.int (2 : Int32)), (.int (3 : Int32))])) _
      refine XS.icmpNo X327.here hx rfl (hb hby at_38) rfl (tlt (by decide)).2.2.2 ?_
      show Steps p.tables e below (T327.setTop (mkF m 41 #[.val (.int p1), .val (.int p2), .val (.int (3 : Int32)), .val (.ref ba), .unset, .unset, .unset] [])) _
      refine XS.aloadN X327.here hx rfl (hb hby at_41) rfl rfl ?_
      show Steps p.tables e below (T327.setTop (mkF m 42 #[.val (.int p1), .val (.int p2), .val (.int (3 : Int32)), .val (.ref ba), .unset, .unset, .unset] [(.ref ba)])) _
      refine XS.iconst X327.here hx rfl (hb hby at_42) ?_
      show Steps p.tables e below (T327.setTop (mkF m 43 #[.val (.int p1), .val (.int p2), .val (.int (3 : Int32)), .val (.ref ba), .unset, .unset, .unset] [(.int (2 : Int32)), (.ref ba)])) _
      refine XS.iloadN X327.here hx rfl (hb hby at_43) rfl ?_
      show Steps p.tables e below (T327.setTop (mkF m 44 #[.val (.int p1), .val (.int p2), .val (.int (3 : Int32)), .val (.ref ba), .unset, .unset, .unset] [(.int p2), (.int (2 : Int32)), (.ref ba)])) _
      refine XS.iconst X327.here hx rfl (hb hby at_44) ?_
      show Steps p.tables e below (T327.setTop (mkF m 45 #[.val (.int p1), .val (.int p2), .val (.int (3 : Int32)), .val (.ref ba), .unset, .unset, .unset] [(.int (2 : Int32)), (.int p2), (.int (2 : Int32)), (.ref ba)])) _
      refine st330 _ ?_
      show Steps p.tables e below (T330.setTop (mkF m 48 #[.val (.int p1), .val (.int p2), .val (.int (3 : Int32)), .val (.ref ba), .unset, .unset, .unset] [(.int (own_at8 p2 (2 : Int32))), (.int (2 : Int32)), (.ref ba)])) _
      refine st332 _ ?_
      show Steps p.tables e below (T332.setTop (mkF m 49 #[.val (.int p1), .val (.int p2), .val (.int (3 : Int32)), .val (.ref ba), .unset, .unset, .unset] [])) _
      refine XS.iloadN X332.here hx rfl (hb hby at_49) rfl ?_
      show Steps p.tables e below (T332.setTop (mkF m 50 #[.val (.int p1), .val (.int p2), .val (.int (3 : Int32)), .val (.ref ba), .unset, .unset, .unset] [(.int (3 : Int32))])) _
      refine XS.iconst X332.here hx rfl (hb hby at_50) ?_
      show Steps p.tables e below (T332.setTop (mkF m 51 #[.val (.int p1), .val (.int p2), .val (.int (3 : Int32)), .val (.ref ba), .unset, .unset, .unset] [(.int (3 : Int32)), (.int (3 : Int32))])) _
      refine XS.icmpYes X332.here hx rfl (pc0 := 51) (pc' := 62) rfl (hb hby at_51) rfl (flt (by decide)).2.2.2 (by decide) (by decide) ?_
      show Steps p.tables e below (T332.setTop (mkF m 62 #[.val (.int p1), .val (.int p2), .val (.int (3 : Int32)), .val (.ref ba), .unset, .unset, .unset] [])) _
      refine XS.aloadN X332.here hx rfl (hb hby at_62) rfl rfl ?_
      show Steps p.tables e below (T332.setTop (mkF m 63 #[.val (.int p1), .val (.int p2), .val (.int (3 : Int32)), .val (.ref ba), .unset, .unset, .unset] [(.ref ba)])) _
      refine st335.trans ?_
      show Steps p.tables e below (T335.setTop (mkF m 66 #[.val (.int p1), .val (.int p2), .val (.int (3 : Int32)), .val (.ref ba), .unset, .unset, .unset] [(.ref bp)])) _
      refine XS.astore X335'.here hx rfl (hb hby at_66) rfl rfl (l' := #[.val (.int p1), .val (.int p2), .val (.int (3 : Int32)), .val (.ref ba), .val (.ref bp), .unset, .unset]) rfl ?_
      show Steps p.tables e below (T335.setTop (mkF m 68 #[.val (.int p1), .val (.int p2), .val (.int (3 : Int32)), .val (.ref ba), .val (.ref bp), .unset, .unset] [])) _
      refine XS.aload X335'.here hx rfl (hb hby at_68) rfl rfl ?_
      show Steps p.tables e below (T335.setTop (mkF m 70 #[.val (.int p1), .val (.int p2), .val (.int (3 : Int32)), .val (.ref ba), .val (.ref bp), .unset, .unset] [(.ref bp)])) _
      refine st339.trans ?_
      show Steps p.tables e below (T339.setTop (mkF m 73 #[.val (.int p1), .val (.int p2), .val (.int (3 : Int32)), .val (.ref ba), .val (.ref bp), .unset, .unset] [(.int (0 : Int32))])) _
      refine XS.ifYes X339.here hx rfl (pc0 := 73) (pc' := 78) rfl (hb hby at_73) rfl ((if0 _ _).trans (teq (rfl : (0 : Int32) = 0)).1) (by decide) (by decide) ?_
      show Steps p.tables e below (T339.setTop (mkF m 78 #[.val (.int p1), .val (.int p2), .val (.int (3 : Int32)), .val (.ref ba), .val (.ref bp), .unset, .unset] [])) _
      refine XS.aload X339.here hx rfl (hb hby at_78) rfl rfl ?_
      show Steps p.tables e below (T339.setTop (mkF m 80 #[.val (.int p1), .val (.int p2), .val (.int (3 : Int32)), .val (.ref ba), .val (.ref bp), .unset, .unset] [(.ref bp)])) _
      refine st340.trans ?_
      show Steps p.tables e below (T340.setTop (mkF m 83 #[.val (.int p1), .val (.int p2), .val (.int (3 : Int32)), .val (.ref ba), .val (.ref bp), .unset, .unset] [.null])) _
      refine XS.ifnullYes X340.here hx rfl (pc0 := 83) (pc' := 88) rfl (hb hby at_83) rfl (by decide) (by decide) ?_
      show Steps p.tables e below (T340.setTop (mkF m 88 #[.val (.int p1), .val (.int p2), .val (.int (3 : Int32)), .val (.ref ba), .val (.ref bp), .unset, .unset] [])) _
      refine XS.aload X340.here hx rfl (hb hby at_88) rfl rfl ?_
      show Steps p.tables e below (T340.setTop (mkF m 90 #[.val (.int p1), .val (.int p2), .val (.int (3 : Int32)), .val (.ref ba), .val (.ref bp), .unset, .unset] [(.ref bp)])) _
      refine st341.trans ?_
      show Steps p.tables e below (T341.setTop (mkF m 93 #[.val (.int p1), .val (.int p2), .val (.int (3 : Int32)), .val (.ref ba), .val (.ref bp), .unset, .unset] [(.long ((3 : Int32).toInt64))])) _
      refine XS.iloadN X341.here hx rfl (hb hby at_93) rfl ?_
      show Steps p.tables e below (T341.setTop (mkF m 94 #[.val (.int p1), .val (.int p2), .val (.int (3 : Int32)), .val (.ref ba), .val (.ref bp), .unset, .unset] [(.int (3 : Int32)), (.long ((3 : Int32).toInt64))])) _
      refine XS.i2l X341.here hx rfl (hb hby at_94) rfl ?_
      show Steps p.tables e below (T341.setTop (mkF m 95 #[.val (.int p1), .val (.int p2), .val (.int (3 : Int32)), .val (.ref ba), .val (.ref bp), .unset, .unset] [(.long ((3 : Int32).toInt64)), (.long ((3 : Int32).toInt64))])) _
      refine XS.lcmp X341.here hx rfl (hb hby at_95) rfl ?_
      show Steps p.tables e below (T341.setTop (mkF m 96 #[.val (.int p1), .val (.int p2), .val (.int (3 : Int32)), .val (.ref ba), .val (.ref bp), .unset, .unset] [(.int (lcmpW ((3 : Int32).toInt64) ((3 : Int32).toInt64)))])) _
      refine XS.ifYes X341.here hx rfl (pc0 := 96) (pc' := 101) rfl (hb hby at_96) rfl ((if0 _ _).trans (teq ((lw_eq _ _).mpr rfl)).1) (by decide) (by decide) ?_
      show Steps p.tables e below (T341.setTop (mkF m 101 #[.val (.int p1), .val (.int p2), .val (.int (3 : Int32)), .val (.ref ba), .val (.ref bp), .unset, .unset] [])) _
      refine XS.aload X341.here hx rfl (hb hby at_101) rfl rfl ?_
      show Steps p.tables e below (T341.setTop (mkF m 103 #[.val (.int p1), .val (.int p2), .val (.int (3 : Int32)), .val (.ref ba), .val (.ref bp), .unset, .unset] [(.ref bp)])) _
      refine st342.trans ?_
      show Steps p.tables e below (T342.setTop (mkF m 106 #[.val (.int p1), .val (.int p2), .val (.int (3 : Int32)), .val (.ref ba), .val (.ref bp), .unset, .unset] [(.ref b1)])) _
      refine XS.astore X342.here hx rfl (hb hby at_106) rfl rfl (l' := #[.val (.int p1), .val (.int p2), .val (.int (3 : Int32)), .val (.ref ba), .val (.ref bp), .val (.ref b1), .unset]) rfl ?_
      show Steps p.tables e below (T342.setTop (mkF m 108 #[.val (.int p1), .val (.int p2), .val (.int (3 : Int32)), .val (.ref ba), .val (.ref bp), .val (.ref b1), .unset] [])) _
      refine XS.aload X342.here hx rfl (hb hby at_108) rfl rfl ?_
      show Steps p.tables e below (T342.setTop (mkF m 110 #[.val (.int p1), .val (.int p2), .val (.int (3 : Int32)), .val (.ref ba), .val (.ref bp), .val (.ref b1), .unset] [(.ref b1)])) _
      refine XS.aloadN X342.here hx rfl (hb hby at_110) rfl rfl ?_
      show Steps p.tables e below (T342.setTop (mkF m 111 #[.val (.int p1), .val (.int p2), .val (.int (3 : Int32)), .val (.ref ba), .val (.ref bp), .val (.ref b1), .unset] [(.ref ba), (.ref b1)])) _
      refine Jvm.RoadKit.acmp (g := (mkF m 111 #[.val (.int p1), .val (.int p2), .val (.int (3 : Int32)), .val (.ref ba), .val (.ref bp), .val (.ref b1), .unset] [(.ref ba), (.ref b1)])) X342 hx rfl rfl rfl (pc0 := 111) (pc' := 116) (same := false) rfl (hb hby at_111) rfl (decide_eq_false fun q => (Ne.symm ne_ba_b1) (Value.ref.inj q)) (by decide) (by decide) ?_
      show Steps p.tables e below (T342.setTop (mkF m 116 #[.val (.int p1), .val (.int p2), .val (.int (3 : Int32)), .val (.ref ba), .val (.ref bp), .val (.ref b1), .unset] [])) _
      refine XS.aload X342.here hx rfl (hb hby at_116) rfl rfl ?_
      show Steps p.tables e below (T342.setTop (mkF m 118 #[.val (.int p1), .val (.int p2), .val (.int (3 : Int32)), .val (.ref ba), .val (.ref bp), .val (.ref b1), .unset] [(.ref b1)])) _
      refine XS.iloadN X342.here hx rfl (hb hby at_118) rfl ?_
      show Steps p.tables e below (T342.setTop (mkF m 119 #[.val (.int p1), .val (.int p2), .val (.int (3 : Int32)), .val (.ref ba), .val (.ref bp), .val (.ref b1), .unset] [(.int (3 : Int32)), (.ref b1)])) _
      refine XS.iloadN X342.here hx rfl (hb hby at_119) rfl ?_
      show Steps p.tables e below (T342.setTop (mkF m 120 #[.val (.int p1), .val (.int p2), .val (.int (3 : Int32)), .val (.ref ba), .val (.ref bp), .val (.ref b1), .unset] [(.int p2), (.int (3 : Int32)), (.ref b1)])) _
      refine st354 _ ?_
      show Steps p.tables e below (T354.setTop (mkF m 123 #[.val (.int p1), .val (.int p2), .val (.int (3 : Int32)), .val (.ref ba), .val (.ref bp), .val (.ref b1), .unset] [(.int (1 : Int32))])) _
      refine XS.ifYes X354.here hx rfl (pc0 := 123) (pc' := 128) rfl (hb hby at_123) rfl ((if0 _ _).trans (feq (by decide : ¬ (1 : Int32) = 0)).2) (by decide) (by decide) ?_
      show Steps p.tables e below (T354.setTop (mkF m 128 #[.val (.int p1), .val (.int p2), .val (.int (3 : Int32)), .val (.ref ba), .val (.ref bp), .val (.ref b1), .unset] [])) _
      refine XS.aloadN X354.here hx rfl (hb hby at_128) rfl rfl ?_
      show Steps p.tables e below (T354.setTop (mkF m 129 #[.val (.int p1), .val (.int p2), .val (.int (3 : Int32)), .val (.ref ba), .val (.ref bp), .val (.ref b1), .unset] [(.ref ba)])) _
      refine XS.iloadN X354.here hx rfl (hb hby at_129) rfl ?_
      show Steps p.tables e below (T354.setTop (mkF m 130 #[.val (.int p1), .val (.int p2), .val (.int (3 : Int32)), .val (.ref ba), .val (.ref bp), .val (.ref b1), .unset] [(.int (3 : Int32)), (.ref ba)])) _
      refine st355 _ ?_
      show Steps p.tables e below (T355.setTop (mkF m 133 #[.val (.int p1), .val (.int p2), .val (.int (3 : Int32)), .val (.ref ba), .val (.ref bp), .val (.ref b1), .unset] [])) _
      refine XS.aload X355.here hx rfl (hb hby at_133) rfl rfl ?_
      show Steps p.tables e below (T355.setTop (mkF m 135 #[.val (.int p1), .val (.int p2), .val (.int (3 : Int32)), .val (.ref ba), .val (.ref bp), .val (.ref b1), .unset] [(.ref b1)])) _
      refine XS.iloadN X355.here hx rfl (hb hby at_135) rfl ?_
      show Steps p.tables e below (T355.setTop (mkF m 136 #[.val (.int p1), .val (.int p2), .val (.int (3 : Int32)), .val (.ref ba), .val (.ref bp), .val (.ref b1), .unset] [(.int (3 : Int32)), (.ref b1)])) _
      refine st370 _ ?_
      show Steps p.tables e below (T370.setTop (mkF m 139 #[.val (.int p1), .val (.int p2), .val (.int (3 : Int32)), .val (.ref ba), .val (.ref bp), .val (.ref b1), .unset] [])) _
      refine XS.aload X370.here hx rfl (hb hby at_139) rfl rfl ?_
      show Steps p.tables e below (T370.setTop (mkF m 141 #[.val (.int p1), .val (.int p2), .val (.int (3 : Int32)), .val (.ref ba), .val (.ref bp), .val (.ref b1), .unset] [(.ref bp)])) _
      refine st384.trans ?_
      show Steps p.tables e below (T384.setTop (mkF m 144 #[.val (.int p1), .val (.int p2), .val (.int (3 : Int32)), .val (.ref ba), .val (.ref bp), .val (.ref b1), .unset] [(.ref b2)])) _
      refine XS.astore X384.here hx rfl (hb hby at_144) rfl rfl (l' := #[.val (.int p1), .val (.int p2), .val (.int (3 : Int32)), .val (.ref ba), .val (.ref bp), .val (.ref b1), .val (.ref b2)]) rfl ?_
      show Steps p.tables e below (T384.setTop (mkF m 146 #[.val (.int p1), .val (.int p2), .val (.int (3 : Int32)), .val (.ref ba), .val (.ref bp), .val (.ref b1), .val (.ref b2)] [])) _
      refine XS.aload X384.here hx rfl (hb hby at_146) rfl rfl ?_
      show Steps p.tables e below (T384.setTop (mkF m 148 #[.val (.int p1), .val (.int p2), .val (.int (3 : Int32)), .val (.ref ba), .val (.ref bp), .val (.ref b1), .val (.ref b2)] [(.ref b2)])) _
      refine XS.aload X384.here hx rfl (hb hby at_148) rfl rfl ?_
      show Steps p.tables e below (T384.setTop (mkF m 150 #[.val (.int p1), .val (.int p2), .val (.int (3 : Int32)), .val (.ref ba), .val (.ref bp), .val (.ref b1), .val (.ref b2)] [(.ref b1), (.ref b2)])) _
      refine Jvm.RoadKit.acmp (g := (mkF m 150 #[.val (.int p1), .val (.int p2), .val (.int (3 : Int32)), .val (.ref ba), .val (.ref bp), .val (.ref b1), .val (.ref b2)] [(.ref b1), (.ref b2)])) X384 hx rfl rfl rfl (pc0 := 150) (pc' := 153) (same := false) rfl (hb hby at_150) rfl (decide_eq_false fun q => ne_b1_b2.symm (Value.ref.inj q)) (by decide) (by decide) ?_
      show Steps p.tables e below (T384.setTop (mkF m 153 #[.val (.int p1), .val (.int p2), .val (.int (3 : Int32)), .val (.ref ba), .val (.ref bp), .val (.ref b1), .val (.ref b2)] [])) _
      refine XS.aload X384.here hx rfl (hb hby at_153) rfl rfl ?_
      show Steps p.tables e below (T384.setTop (mkF m 155 #[.val (.int p1), .val (.int p2), .val (.int (3 : Int32)), .val (.ref ba), .val (.ref bp), .val (.ref b1), .val (.ref b2)] [(.ref b2)])) _
      refine XS.aloadN X384.here hx rfl (hb hby at_155) rfl rfl ?_
      show Steps p.tables e below (T384.setTop (mkF m 156 #[.val (.int p1), .val (.int p2), .val (.int (3 : Int32)), .val (.ref ba), .val (.ref bp), .val (.ref b1), .val (.ref b2)] [(.ref ba), (.ref b2)])) _
      refine Jvm.RoadKit.acmp (g := (mkF m 156 #[.val (.int p1), .val (.int p2), .val (.int (3 : Int32)), .val (.ref ba), .val (.ref bp), .val (.ref b1), .val (.ref b2)] [(.ref ba), (.ref b2)])) X384 hx rfl rfl rfl (pc0 := 156) (pc' := 161) (same := false) rfl (hb hby at_156) rfl (decide_eq_false fun q => ne_ba_b2.symm (Value.ref.inj q)) (by decide) (by decide) ?_
      show Steps p.tables e below (T384.setTop (mkF m 161 #[.val (.int p1), .val (.int p2), .val (.int (3 : Int32)), .val (.ref ba), .val (.ref bp), .val (.ref b1), .val (.ref b2)] [])) _
      refine XS.aload X384.here hx rfl (hb hby at_161) rfl rfl ?_
      show Steps p.tables e below (T384.setTop (mkF m 163 #[.val (.int p1), .val (.int p2), .val (.int (3 : Int32)), .val (.ref ba), .val (.ref bp), .val (.ref b1), .val (.ref b2)] [(.ref b2)])) _
      refine XS.iloadN X384.here hx rfl (hb hby at_163) rfl ?_
      show Steps p.tables e below (T384.setTop (mkF m 164 #[.val (.int p1), .val (.int p2), .val (.int (3 : Int32)), .val (.ref ba), .val (.ref bp), .val (.ref b1), .val (.ref b2)] [(.int (3 : Int32)), (.ref b2)])) _
      refine XS.iloadN X384.here hx rfl (hb hby at_164) rfl ?_
      show Steps p.tables e below (T384.setTop (mkF m 165 #[.val (.int p1), .val (.int p2), .val (.int (3 : Int32)), .val (.ref ba), .val (.ref bp), .val (.ref b1), .val (.ref b2)] [(.int p2), (.int (3 : Int32)), (.ref b2)])) _
      refine st398 _ ?_
      exact k_)
    obtain ⟨fs, hr, hrun, hended, hWr, hW1, hW2, hsame⟩ := Jvm.Stand.leaveW (s := s) X398 hS335' (by rw [e398]; exact hk397) (v := some (.int (1 : Int32))) (fun h => by rw [Bd.returns] at h; cases h)
    refine ⟨_, _, pre399 _ ?_, hrun, hended, _, _, rfl, ?_, hWr, hW1, hW2, hsame.mono (by decide) (by decide)⟩
    · show Steps p.tables e below (T398.setTop (mkF m 168 #[.val (.int p1), .val (.int p2), .val (.int (3 : Int32)), .val (.ref ba), .val (.ref bp), .val (.ref b1), .val (.ref b2)] [(.int (1 : Int32))])) _
      exact retN X398 hx (t := .boolean) Bd.returns (by simp) (hb hby at_168) hr
    · show Qrm0 Z p1 p2 h0 n0 _ T398.heap _
      rw [e398]
      exact ⟨rfl, N398⟩
  · skip
    subst q
    obtain ⟨T400, h400, k_ba, X400, e400, Ext_ba, A_ba, E_ba, st400⟩ := newPE X0 hx hZ (hw _ (List.mem_of_getElem? (i := 1) rfl)) e0 (g := (mkF m 8 #[.val (.int p1), .val (.int p2), .val (.int (4 : Int32)), .unset, .unset, .unset, .unset] [(.int (4 : Int32))])) rfl (hb hby at_8) rfl (by decide) (cap := 4) (by decide) (by decide) (by decide) (by decide) (ad := "[B") (by decide)
    obtain ⟨ba, eq_ba⟩ : ∃ z, z = h0.size := ⟨_, rfl⟩
    rw [← eq_ba] at A_ba E_ba st400
    have g_ba : n0 ≤ ba := Nat.le_trans Z0 (Nat.le_of_eq eq_ba.symm)
    have Z401 : n0 ≤ h400.size := Nat.le_trans Z0 (Ext_ba.1)
    have V_ba : Arv Z h400 ba k_ba .byte (4 : Int32) [(.int (0 : Int32)), (.int (0 : Int32)), (.int (0 : Int32)), (.int (0 : Int32))] (.int (0 : Int32)) := (Arv.new A_ba (by decide)).pad (pad_rep [] (.int (0 : Int32)) 4)
    obtain ⟨_, _, ⟨T402, L402, k402, n402⟩, -, X402, ⟨Lc402, hQ402, l402, y402, z402⟩, st402⟩ := Jvm.LawKit.callS X400 hx (y := (⟨"com/example/ledgerpost/ledgerpost/PayloadOfBytesPinLaw", "at", "(II)B"⟩ : MethodName)) hown (mvT hZ (hw _ (List.mem_of_getElem? (i := 65) rfl))) (mvT hZ (hw _ (List.mem_of_getElem? (i := 66) rfl))) (mvT hZ (hw _ (List.mem_of_getElem? (i := 60) rfl))) (mvT hZ (hw _ (List.mem_of_getElem? (i := 67) rfl))) (by decide) (backOf (W := 2) (rmA l Z a0 hw [] p2 (0 : Int32) h400 n0 Z401 ) hZ (hw _ (List.mem_of_getElem? (i := 67) rfl)) (hw _ (List.mem_of_getElem? (i := 60) rfl)) (by decide) (by decide)) (g := (mkF m 19 #[.val (.int p1), .val (.int p2), .val (.int (4 : Int32)), .val (.ref ba), .unset, .unset, .unset] [(.int (0 : Int32)), (.int p2), (.int (0 : Int32)), (.ref ba)])) rfl (by rw [hml]; rfl) (argsL := [(.int p2), (.int (0 : Int32))]) (rest := [(.int (0 : Int32)), (.ref ba)]) (lenOf pd_2 rfl) rfl (by show 2 * 0 + _ ≤ _; exact Nat.le_of_eq rfl) (hb hby at_19) (fun _ _ => ⟨rfl, e400, (by decide : 1 + 0 ≤ _), (by decide : 4 + 0 ≤ _)⟩)
    dsimp only [Pt.U, Pt.locs, Pt.cells, Pt.slots] at X402 l402 y402 z402 st402 hQ402
    subst l402 y402 z402
    obtain ⟨rfl, N402q, e402⟩ := hQ402
    have N402 := Fr.app N0 N402q
    obtain ⟨cl403, Ar403, qk403, Sz403, Ng403, Hs403, Gs403⟩ := V_ba
    have hin403 : ¬ ((0 : Int32) < 0 ∨ cl403.slots.size ≤ ((0 : Int32)).toNatClampNeg) := inb_of Sz403 ⟨by decide, by decide⟩
    obtain ⟨T404, h404, X404, e404, W404, st404⟩ := stB X402 hx hZ e402 Ar403 (j := (0 : Int32)) hin403 (g := (mkF m 22 #[.val (.int p1), .val (.int p2), .val (.int (4 : Int32)), .val (.ref ba), .unset, .unset, .unset] [(.int (own_at8 p2 (0 : Int32))), (.int (0 : Int32)), (.ref ba)])) rfl rfl (hb hby at_22)
    have E_ba_405 := E_ba.wr W404
    have V_ba_404 : Arv Z h404 ba k_ba .byte (4 : Int32) [(.int (nar .byte (own_at8 p2 (0 : Int32)))), (.int (0 : Int32)), (.int (0 : Int32)), (.int (0 : Int32))] (.int (0 : Int32)) := Arv.set Ar403 qk403 Sz403 Ng403 Hs403 Gs403 (fits_nar_byte _) W404 0 rfl (Nat.le_of_ble_eq_true rfl)
    have N404 := Fr.snoc X404 N402 g_ba
    have Z406 : n0 ≤ h404.size := Nat.le_trans Z401 ((Keep.of_wr W404).1)
    obtain ⟨_, _, ⟨T407, L407, k407, n407⟩, -, X407, ⟨Lc407, hQ407, l407, y407, z407⟩, st407⟩ := Jvm.LawKit.callS X404 hx (y := (⟨"com/example/ledgerpost/ledgerpost/PayloadOfBytesPinLaw", "at", "(II)B"⟩ : MethodName)) hown (mvT hZ (hw _ (List.mem_of_getElem? (i := 65) rfl))) (mvT hZ (hw _ (List.mem_of_getElem? (i := 66) rfl))) (mvT hZ (hw _ (List.mem_of_getElem? (i := 60) rfl))) (mvT hZ (hw _ (List.mem_of_getElem? (i := 67) rfl))) (by decide) (backOf (W := 2) (rmA l Z a0 hw [] p2 (1 : Int32) h404 n0 Z406 ) hZ (hw _ (List.mem_of_getElem? (i := 67) rfl)) (hw _ (List.mem_of_getElem? (i := 60) rfl)) (by decide) (by decide)) (g := (mkF m 32 #[.val (.int p1), .val (.int p2), .val (.int (4 : Int32)), .val (.ref ba), .unset, .unset, .unset] [(.int (1 : Int32)), (.int p2), (.int (1 : Int32)), (.ref ba)])) rfl (by rw [hml]; rfl) (argsL := [(.int p2), (.int (1 : Int32))]) (rest := [(.int (1 : Int32)), (.ref ba)]) (lenOf pd_2 rfl) rfl (by show 2 * 0 + _ ≤ _; exact Nat.le_of_eq rfl) (hb hby at_32) (fun _ _ => ⟨rfl, e404, (by decide : 1 + 0 ≤ _), (by decide : 4 + 0 ≤ _)⟩)
    dsimp only [Pt.U, Pt.locs, Pt.cells, Pt.slots] at X407 l407 y407 z407 st407 hQ407
    subst l407 y407 z407
    obtain ⟨rfl, N407q, e407⟩ := hQ407
    have N407 := Fr.app N404 N407q
    obtain ⟨cl408, Ar408, qk408, Sz408, Ng408, Hs408, Gs408⟩ := V_ba_404
    have hin408 : ¬ ((1 : Int32) < 0 ∨ cl408.slots.size ≤ ((1 : Int32)).toNatClampNeg) := inb_of Sz408 ⟨by decide, by decide⟩
    obtain ⟨T409, h409, X409, e409, W409, st409⟩ := stB X407 hx hZ e407 Ar408 (j := (1 : Int32)) hin408 (g := (mkF m 35 #[.val (.int p1), .val (.int p2), .val (.int (4 : Int32)), .val (.ref ba), .unset, .unset, .unset] [(.int (own_at8 p2 (1 : Int32))), (.int (1 : Int32)), (.ref ba)])) rfl rfl (hb hby at_35)
    have E_ba_410 := E_ba_405.wr W409
    have V_ba_409 : Arv Z h409 ba k_ba .byte (4 : Int32) [(.int (nar .byte (own_at8 p2 (0 : Int32)))), (.int (nar .byte (own_at8 p2 (1 : Int32)))), (.int (0 : Int32)), (.int (0 : Int32))] (.int (0 : Int32)) := Arv.set Ar408 qk408 Sz408 Ng408 Hs408 Gs408 (fits_nar_byte _) W409 1 rfl (Nat.le_of_ble_eq_true rfl)
    have N409 := Fr.snoc X409 N407 g_ba
    have Z411 : n0 ≤ h409.size := Nat.le_trans Z406 ((Keep.of_wr W409).1)
    obtain ⟨_, _, ⟨T412, L412, k412, n412⟩, -, X412, ⟨Lc412, hQ412, l412, y412, z412⟩, st412⟩ := Jvm.LawKit.callS X409 hx (y := (⟨"com/example/ledgerpost/ledgerpost/PayloadOfBytesPinLaw", "at", "(II)B"⟩ : MethodName)) hown (mvT hZ (hw _ (List.mem_of_getElem? (i := 65) rfl))) (mvT hZ (hw _ (List.mem_of_getElem? (i := 66) rfl))) (mvT hZ (hw _ (List.mem_of_getElem? (i := 60) rfl))) (mvT hZ (hw _ (List.mem_of_getElem? (i := 67) rfl))) (by decide) (backOf (W := 2) (rmA l Z a0 hw [] p2 (2 : Int32) h409 n0 Z411 ) hZ (hw _ (List.mem_of_getElem? (i := 67) rfl)) (hw _ (List.mem_of_getElem? (i := 60) rfl)) (by decide) (by decide)) (g := (mkF m 45 #[.val (.int p1), .val (.int p2), .val (.int (4 : Int32)), .val (.ref ba), .unset, .unset, .unset] [(.int (2 : Int32)), (.int p2), (.int (2 : Int32)), (.ref ba)])) rfl (by rw [hml]; rfl) (argsL := [(.int p2), (.int (2 : Int32))]) (rest := [(.int (2 : Int32)), (.ref ba)]) (lenOf pd_2 rfl) rfl (by show 2 * 0 + _ ≤ _; exact Nat.le_of_eq rfl) (hb hby at_45) (fun _ _ => ⟨rfl, e409, (by decide : 1 + 0 ≤ _), (by decide : 4 + 0 ≤ _)⟩)
    dsimp only [Pt.U, Pt.locs, Pt.cells, Pt.slots] at X412 l412 y412 z412 st412 hQ412
    subst l412 y412 z412
    obtain ⟨rfl, N412q, e412⟩ := hQ412
    have N412 := Fr.app N409 N412q
    obtain ⟨cl413, Ar413, qk413, Sz413, Ng413, Hs413, Gs413⟩ := V_ba_409
    have hin413 : ¬ ((2 : Int32) < 0 ∨ cl413.slots.size ≤ ((2 : Int32)).toNatClampNeg) := inb_of Sz413 ⟨by decide, by decide⟩
    obtain ⟨T414, h414, X414, e414, W414, st414⟩ := stB X412 hx hZ e412 Ar413 (j := (2 : Int32)) hin413 (g := (mkF m 48 #[.val (.int p1), .val (.int p2), .val (.int (4 : Int32)), .val (.ref ba), .unset, .unset, .unset] [(.int (own_at8 p2 (2 : Int32))), (.int (2 : Int32)), (.ref ba)])) rfl rfl (hb hby at_48)
    have E_ba_415 := E_ba_410.wr W414
    have V_ba_414 : Arv Z h414 ba k_ba .byte (4 : Int32) [(.int (nar .byte (own_at8 p2 (0 : Int32)))), (.int (nar .byte (own_at8 p2 (1 : Int32)))), (.int (nar .byte (own_at8 p2 (2 : Int32)))), (.int (0 : Int32))] (.int (0 : Int32)) := Arv.set Ar413 qk413 Sz413 Ng413 Hs413 Gs413 (fits_nar_byte _) W414 2 rfl (Nat.le_of_ble_eq_true rfl)
    have N414 := Fr.snoc X414 N412 g_ba
    have Z416 : n0 ≤ h414.size := Nat.le_trans Z411 ((Keep.of_wr W414).1)
    obtain ⟨_, _, ⟨T417, L417, k417, n417⟩, -, X417, ⟨Lc417, hQ417, l417, y417, z417⟩, st417⟩ := Jvm.LawKit.callS X414 hx (y := (⟨"com/example/ledgerpost/ledgerpost/PayloadOfBytesPinLaw", "at", "(II)B"⟩ : MethodName)) hown (mvT hZ (hw _ (List.mem_of_getElem? (i := 65) rfl))) (mvT hZ (hw _ (List.mem_of_getElem? (i := 66) rfl))) (mvT hZ (hw _ (List.mem_of_getElem? (i := 60) rfl))) (mvT hZ (hw _ (List.mem_of_getElem? (i := 67) rfl))) (by decide) (backOf (W := 2) (rmA l Z a0 hw [] p2 (3 : Int32) h414 n0 Z416 ) hZ (hw _ (List.mem_of_getElem? (i := 67) rfl)) (hw _ (List.mem_of_getElem? (i := 60) rfl)) (by decide) (by decide)) (g := (mkF m 58 #[.val (.int p1), .val (.int p2), .val (.int (4 : Int32)), .val (.ref ba), .unset, .unset, .unset] [(.int (3 : Int32)), (.int p2), (.int (3 : Int32)), (.ref ba)])) rfl (by rw [hml]; rfl) (argsL := [(.int p2), (.int (3 : Int32))]) (rest := [(.int (3 : Int32)), (.ref ba)]) (lenOf pd_2 rfl) rfl (by show 2 * 0 + _ ≤ _; exact Nat.le_of_eq rfl) (hb hby at_58) (fun _ _ => ⟨rfl, e414, (by decide : 1 + 0 ≤ _), (by decide : 4 + 0 ≤ _)⟩)
    dsimp only [Pt.U, Pt.locs, Pt.cells, Pt.slots] at X417 l417 y417 z417 st417 hQ417
    subst l417 y417 z417
    obtain ⟨rfl, N417q, e417⟩ := hQ417
    have N417 := Fr.app N414 N417q
    obtain ⟨cl418, Ar418, qk418, Sz418, Ng418, Hs418, Gs418⟩ := V_ba_414
    have hin418 : ¬ ((3 : Int32) < 0 ∨ cl418.slots.size ≤ ((3 : Int32)).toNatClampNeg) := inb_of Sz418 ⟨by decide, by decide⟩
    obtain ⟨T419, h419, X419, e419, W419, st419⟩ := stB X417 hx hZ e417 Ar418 (j := (3 : Int32)) hin418 (g := (mkF m 61 #[.val (.int p1), .val (.int p2), .val (.int (4 : Int32)), .val (.ref ba), .unset, .unset, .unset] [(.int (own_at8 p2 (3 : Int32))), (.int (3 : Int32)), (.ref ba)])) rfl rfl (hb hby at_61)
    have E_ba_420 := E_ba_415.wr W419
    have V_ba_419 : Arv Z h419 ba k_ba .byte (4 : Int32) [(.int (nar .byte (own_at8 p2 (0 : Int32)))), (.int (nar .byte (own_at8 p2 (1 : Int32)))), (.int (nar .byte (own_at8 p2 (2 : Int32)))), (.int (nar .byte (own_at8 p2 (3 : Int32))))] (.int (0 : Int32)) := Arv.set Ar418 qk418 Sz418 Ng418 Hs418 Gs418 (fits_nar_byte _) W419 3 rfl (Nat.le_of_ble_eq_true rfl)
    have N419 := Fr.snoc X419 N417 g_ba
    have Z421 : n0 ≤ h419.size := Nat.le_trans Z416 ((Keep.of_wr W419).1)
    have lt_ba := V_ba_419.lt
    obtain ⟨_, _, ⟨T422, L422, k422, n422⟩, -, X422, hS422, hle422, ⟨Lc422, hQ422, l422, y422, z422⟩, st422⟩ := callSS (s := s) X419 hx (y := (⟨"com/example/ledgerpost/ledgerpost/Payload", "ofBytes", "([B)Lcom/example/ledgerpost/ledgerpost/Payload;"⟩ : MethodName)) hown (mvT hZ (hw _ (List.mem_of_getElem? (i := 2) rfl))) (mvT hZ (hw _ (List.mem_of_getElem? (i := 3) rfl))) (mvT hZ (hw _ (List.mem_of_getElem? (i := 4) rfl))) (mvT hZ (hw _ (List.mem_of_getElem? (i := 5) rfl))) (by decide) (backOfS (W := 0) (rmO l Z a0 hw [] ba k_ba (4 : Int32) [(.int (nar .byte (own_at8 p2 (0 : Int32)))), (.int (nar .byte (own_at8 p2 (1 : Int32)))), (.int (nar .byte (own_at8 p2 (2 : Int32)))), (.int (nar .byte (own_at8 p2 (3 : Int32))))] h419 n0 Z421 V_ba_419 E_ba_420 (by decide)) hZ (hw _ (List.mem_of_getElem? (i := 5) rfl)) (hw _ (List.mem_of_getElem? (i := 4) rfl)) (by decide) (by decide)) (g := (mkF m 63 #[.val (.int p1), .val (.int p2), .val (.int (4 : Int32)), .val (.ref ba), .unset, .unset, .unset] [(.ref ba)])) rfl (by rw [hml]; rfl) (argsL := [(.ref ba)]) (rest := []) (lenOf pd_3 rfl) rfl (by show 2 * 0 + _ ≤ _; exact Nat.le_of_eq rfl) (hb hby at_63) (fun _ _ => ⟨rfl, e419, (by decide : 1 + 4 ≤ _), (by decide : 4 + 30 ≤ _)⟩)
    dsimp only [Pt.U, Pt.locs, Pt.cells, Pt.slots] at X422 l422 y422 z422 st422 hQ422 hS422 hle422
    subst l422 y422 z422
    have hle422' : h419.size ≤ T422.heap.size := by have q := hle422; rw [e419] at q; exact q
    obtain ⟨X422', hS422', hZ422, hown422⟩ := rebS (s := s) (vm0 := s.vm) ((State.WarmedH.refl s).since 0) (Nat.zero_le _) X422 hS422 hle422' hZ hown
    obtain ⟨bp, cc, rfl, N422q, K422, E422, F0422, F1422, V422, Ec422, lb422, lc422⟩ := hQ422
    have N422 := Fr.app N419 N422q
    have V_ba_423 := V_ba_419.keep K422 nin0
    have E_ba_424 := E_ba_420.keep K422
    have Z425 : n0 ≤ T422.heap.size := Nat.le_trans Z421 (K422.1)
    have ne_ba_bp : ba ≠ bp := Nat.ne_of_lt (Nat.lt_of_lt_of_le lt_ba lb422)
    have ne_ba_cc : ba ≠ cc := Nat.ne_of_lt (Nat.lt_of_lt_of_le lt_ba lc422)
    obtain ⟨cq426, kq426, q426a, q426b, q426c⟩ := isOf hZ422 rfl E422
    obtain ⟨_, _, ⟨T426, L426, k426, n426⟩, -, X426, ⟨Lc426, hQ426, l426, y426, z426⟩, st426⟩ := X422'.virtualBack hx (y := (⟨"com/example/ledgerpost/ledgerpost/Payload", "isText", "()Z"⟩ : MethodName)) (z := (⟨"com/example/ledgerpost/ledgerpost/Payload", "isText", "()Z"⟩ : MethodName)) hown422 (mvT hZ422 (hw _ (List.mem_of_getElem? (i := 38) rfl))) (mvT hZ422 (hw _ (List.mem_of_getElem? (i := 39) rfl))) (notFace_of_selects (args := #[]) (mvT hZ422 (hw _ (List.mem_of_getElem? (i := 41) rfl)))) (mvT hZ422 (hw _ (List.mem_of_getElem? (i := 41) rfl))) (mvT hZ422 (hw _ (List.mem_of_getElem? (i := 40) rfl))) (by decide) (backOf (W := 0) (rmI l Z a0 hw [] bp T422.heap n0 Z425 F0422) hZ422 (hw _ (List.mem_of_getElem? (i := 42) rfl)) (hw _ (List.mem_of_getElem? (i := 4) rfl)) (by decide) (by decide)) q426a q426c (g := (mkF m 70 #[.val (.int p1), .val (.int p2), .val (.int (4 : Int32)), .val (.ref ba), .val (.ref bp), .unset, .unset] [(.ref bp)])) rfl (by rw [hml]; rfl) (Steps.refl _) (argsL := []) (rest := []) (lenOf pd_4 rfl) rfl (by show 2 * 0 + _ ≤ _; exact Nat.le_of_eq rfl) (hb hby at_70) (fun _ _ => ⟨rfl, rfl, (by decide : 5 + 0 ≤ _), (by decide : 34 + 0 ≤ _)⟩)
    dsimp only [Pt.U, Pt.locs, Pt.cells, Pt.slots] at X426 l426 y426 z426 st426 hQ426
    subst l426 y426 z426
    obtain ⟨rfl, N426q, e426⟩ := hQ426
    have N426 := Fr.app N422 N426q
    obtain ⟨cq427, kq427, q427a, q427b, q427c⟩ := isOf hZ422 e426 E422
    obtain ⟨_, _, ⟨T427, L427, k427, n427⟩, -, X427, ⟨Lc427, hQ427, l427, y427, z427⟩, st427⟩ := X426.virtualBack hx (y := (⟨"com/example/ledgerpost/ledgerpost/Payload", "text", "()Ljava/lang/String;"⟩ : MethodName)) (z := (⟨"com/example/ledgerpost/ledgerpost/Payload", "text", "()Ljava/lang/String;"⟩ : MethodName)) hown422 (mvT hZ422 (hw _ (List.mem_of_getElem? (i := 43) rfl))) (mvT hZ422 (hw _ (List.mem_of_getElem? (i := 44) rfl))) (notFace_of_selects (args := #[]) (mvT hZ422 (hw _ (List.mem_of_getElem? (i := 46) rfl)))) (mvT hZ422 (hw _ (List.mem_of_getElem? (i := 46) rfl))) (mvT hZ422 (hw _ (List.mem_of_getElem? (i := 45) rfl))) (by decide) (backOf (W := 0) (rmT l Z a0 hw [] bp T422.heap n0 Z425 F0422) hZ422 (hw _ (List.mem_of_getElem? (i := 47) rfl)) (hw _ (List.mem_of_getElem? (i := 4) rfl)) (by decide) (by decide)) q427a q427c (g := (mkF m 80 #[.val (.int p1), .val (.int p2), .val (.int (4 : Int32)), .val (.ref ba), .val (.ref bp), .unset, .unset] [(.ref bp)])) rfl (by rw [hml]; rfl) (Steps.refl _) (argsL := []) (rest := []) (lenOf pd_5 rfl) rfl (by show 2 * 0 + _ ≤ _; exact Nat.le_of_eq rfl) (hb hby at_80) (fun _ _ => ⟨rfl, e426, (by decide : 5 + 0 ≤ _), (by decide : 34 + 0 ≤ _)⟩)
    dsimp only [Pt.U, Pt.locs, Pt.cells, Pt.slots] at X427 l427 y427 z427 st427 hQ427
    subst l427 y427 z427
    obtain ⟨rfl, N427q, e427⟩ := hQ427
    have N427 := Fr.app N426 N427q
    obtain ⟨cq428, kq428, q428a, q428b, q428c⟩ := isOf hZ422 e427 E422
    obtain ⟨_, _, ⟨T428, L428, k428, n428⟩, -, X428, ⟨Lc428, hQ428, l428, y428, z428⟩, st428⟩ := X427.virtualBack hx (y := (⟨"com/example/ledgerpost/ledgerpost/Payload", "length", "()J"⟩ : MethodName)) (z := (⟨"com/example/ledgerpost/ledgerpost/Payload", "length", "()J"⟩ : MethodName)) hown422 (mvT hZ422 (hw _ (List.mem_of_getElem? (i := 48) rfl))) (mvT hZ422 (hw _ (List.mem_of_getElem? (i := 49) rfl))) (notFace_of_selects (args := #[]) (mvT hZ422 (hw _ (List.mem_of_getElem? (i := 51) rfl)))) (mvT hZ422 (hw _ (List.mem_of_getElem? (i := 51) rfl))) (mvT hZ422 (hw _ (List.mem_of_getElem? (i := 50) rfl))) (by decide) (backOf (W := 0) (rmL l Z a0 hw [] bp cc k_ba (4 : Int32) [(.int (nar .byte (own_at8 p2 (0 : Int32)))), (.int (nar .byte (own_at8 p2 (1 : Int32)))), (.int (nar .byte (own_at8 p2 (2 : Int32)))), (.int (nar .byte (own_at8 p2 (3 : Int32))))] T422.heap n0 Z425 F0422 F1422 V422) hZ422 (hw _ (List.mem_of_getElem? (i := 52) rfl)) (hw _ (List.mem_of_getElem? (i := 4) rfl)) (by decide) (by decide)) q428a q428c (g := (mkF m 90 #[.val (.int p1), .val (.int p2), .val (.int (4 : Int32)), .val (.ref ba), .val (.ref bp), .unset, .unset] [(.ref bp)])) rfl (by rw [hml]; rfl) (Steps.refl _) (argsL := []) (rest := []) (lenOf pd_6 rfl) rfl (by show 2 * 0 + _ ≤ _; exact Nat.le_of_eq rfl) (hb hby at_90) (fun _ _ => ⟨rfl, e427, (by decide : 5 + 0 ≤ _), (by decide : 34 + 0 ≤ _)⟩)
    dsimp only [Pt.U, Pt.locs, Pt.cells, Pt.slots] at X428 l428 y428 z428 st428 hQ428
    subst l428 y428 z428
    obtain ⟨rfl, N428q, e428⟩ := hQ428
    have N428 := Fr.app N427 N428q
    have lt_ba_b1 := E_ba_424.lt
    have lt_bp_b1 := E422.lt
    have lt_cc_b1 := Ec422.lt
    obtain ⟨cq429, kq429, q429a, q429b, q429c⟩ := isOf hZ422 e428 E422
    obtain ⟨_, _, ⟨T429, L429, k429, n429⟩, -, X429, ⟨Lc429, hQ429, l429, y429, z429⟩, st429⟩ := X428.virtualBack hx (y := (⟨"com/example/ledgerpost/ledgerpost/Payload", "bytes", "()[B"⟩ : MethodName)) (z := (⟨"com/example/ledgerpost/ledgerpost/Payload", "bytes", "()[B"⟩ : MethodName)) hown422 (mvT hZ422 (hw _ (List.mem_of_getElem? (i := 53) rfl))) (mvT hZ422 (hw _ (List.mem_of_getElem? (i := 54) rfl))) (notFace_of_selects (args := #[]) (mvT hZ422 (hw _ (List.mem_of_getElem? (i := 56) rfl)))) (mvT hZ422 (hw _ (List.mem_of_getElem? (i := 56) rfl))) (mvT hZ422 (hw _ (List.mem_of_getElem? (i := 55) rfl))) (by decide) (backOf (W := 0) (rmB l Z a0 hw [] bp cc k_ba (4 : Int32) [(.int (nar .byte (own_at8 p2 (0 : Int32)))), (.int (nar .byte (own_at8 p2 (1 : Int32)))), (.int (nar .byte (own_at8 p2 (2 : Int32)))), (.int (nar .byte (own_at8 p2 (3 : Int32))))] T422.heap n0 Z425 F0422 F1422 V422 Ec422 (by decide)) hZ422 (hw _ (List.mem_of_getElem? (i := 57) rfl)) (hw _ (List.mem_of_getElem? (i := 4) rfl)) (by decide) (by decide)) q429a q429c (g := (mkF m 103 #[.val (.int p1), .val (.int p2), .val (.int (4 : Int32)), .val (.ref ba), .val (.ref bp), .unset, .unset] [(.ref bp)])) rfl (by rw [hml]; rfl) (Steps.refl _) (argsL := []) (rest := []) (lenOf pd_7 rfl) rfl (by show 2 * 0 + _ ≤ _; exact Nat.le_of_eq rfl) (hb hby at_103) (fun _ _ => ⟨rfl, e428, (by decide : 5 + 1 ≤ _), (by decide : 34 + 4 ≤ _)⟩)
    dsimp only [Pt.U, Pt.locs, Pt.cells, Pt.slots] at X429 l429 y429 z429 st429 hQ429
    subst l429 y429 z429
    obtain ⟨b1, rfl, N429q, K429, V429, l429, g429⟩ := hQ429
    have N429 := Fr.app N428 N429q
    have V_ba_430 := V_ba_423.keep K429 nin0
    have E_ba_431 := E_ba_424.keep K429
    have E_bp_434 := E422.keep K429
    have F0_bp_435 := F0422.keep K429 nin0
    have F1_bp_436 := F1422.keep K429 nin0
    have V_cc_437 := V422.keep K429 nin0
    have E_cc_438 := Ec422.keep K429
    have Z439 : n0 ≤ T429.heap.size := Nat.le_trans Z425 (K429.1)
    have hk440 := Nat.le_trans (Nat.le_refl _) (K429.1)
    have g_b1 := g429
    have ne_ba_b1 : ba ≠ b1 := Nat.ne_of_lt (Nat.lt_of_lt_of_le lt_ba_b1 l429)
    have ne_bp_b1 : bp ≠ b1 := Nat.ne_of_lt (Nat.lt_of_lt_of_le lt_bp_b1 l429)
    have ne_cc_b1 : cc ≠ b1 := Nat.ne_of_lt (Nat.lt_of_lt_of_le lt_cc_b1 l429)
    obtain ⟨_, _, ⟨T441, L441, k441, n441⟩, -, X441, ⟨Lc441, hQ441, l441, y441, z441⟩, st441⟩ := Jvm.LawKit.callS X429 hx (y := (⟨"com/example/ledgerpost/ledgerpost/PayloadOfBytesPinLaw", "holds", "([BII)Z"⟩ : MethodName)) hown422 (mvT hZ422 (hw _ (List.mem_of_getElem? (i := 58) rfl))) (mvT hZ422 (hw _ (List.mem_of_getElem? (i := 59) rfl))) (mvT hZ422 (hw _ (List.mem_of_getElem? (i := 60) rfl))) (mvT hZ422 (hw _ (List.mem_of_getElem? (i := 61) rfl))) (by decide) (backOf (W := 0) (rmH4 l Z a0 hw [] b1 p2 k_ba T429.heap n0 Z439 V429) hZ422 (hw _ (List.mem_of_getElem? (i := 61) rfl)) (hw _ (List.mem_of_getElem? (i := 60) rfl)) (by decide) (by decide)) (g := (mkF m 120 #[.val (.int p1), .val (.int p2), .val (.int (4 : Int32)), .val (.ref ba), .val (.ref bp), .val (.ref b1), .unset] [(.int p2), (.int (4 : Int32)), (.ref b1)])) rfl (by rw [hml]; rfl) (argsL := [(.ref b1), (.int (4 : Int32)), (.int p2)]) (rest := []) (lenOf pd_8 rfl) rfl (by show 2 * 0 + _ ≤ _; exact Nat.le_of_eq rfl) (hb hby at_120) (fun _ _ => ⟨rfl, rfl, (by decide : 6 + 0 ≤ _), (by decide : 38 + 0 ≤ _)⟩)
    dsimp only [Pt.U, Pt.locs, Pt.cells, Pt.slots] at X441 l441 y441 z441 st441 hQ441
    subst l441 y441 z441
    obtain ⟨rfl, N441q, e441⟩ := hQ441
    have N441 := Fr.app N429 N441q
    obtain ⟨_, _, ⟨T442, L442, k442, n442⟩, -, X442, ⟨Lc442, hQ442, l442, y442, z442⟩, st442⟩ := Jvm.LawKit.callS X441 hx (y := (⟨"com/example/ledgerpost/ledgerpost/PayloadOfBytesPinLaw", "flip", "([BI)V"⟩ : MethodName)) hown422 (mvT hZ422 (hw _ (List.mem_of_getElem? (i := 62) rfl))) (mvT hZ422 (hw _ (List.mem_of_getElem? (i := 63) rfl))) (mvT hZ422 (hw _ (List.mem_of_getElem? (i := 60) rfl))) (mvT hZ422 (hw _ (List.mem_of_getElem? (i := 64) rfl))) (by decide) (backOf (W := 0) (rmF4 l Z a0 hw [] ba k_ba (nar .byte (own_at8 p2 (0 : Int32))) (nar .byte (own_at8 p2 (1 : Int32))) (nar .byte (own_at8 p2 (2 : Int32))) (nar .byte (own_at8 p2 (3 : Int32))) T429.heap n0 Z439 V_ba_430 g_ba) hZ422 (hw _ (List.mem_of_getElem? (i := 64) rfl)) (hw _ (List.mem_of_getElem? (i := 60) rfl)) (by decide) (by decide)) (g := (mkF m 130 #[.val (.int p1), .val (.int p2), .val (.int (4 : Int32)), .val (.ref ba), .val (.ref bp), .val (.ref b1), .unset] [(.int (4 : Int32)), (.ref ba)])) rfl (by rw [hml]; rfl) (argsL := [(.ref ba), (.int (4 : Int32))]) (rest := []) (lenOf pd_9 rfl) rfl (by show 2 * 0 + _ ≤ _; exact Nat.le_of_eq rfl) (hb hby at_130) (fun _ _ => ⟨rfl, e441, (by decide : 6 + 0 ≤ _), (by decide : 38 + 0 ≤ _)⟩)
    dsimp only [Pt.U, Pt.locs, Pt.cells, Pt.slots] at X442 l442 y442 z442 st442 hQ442
    subst l442 y442 z442
    obtain ⟨rfl, N442q, K442⟩ := hQ442
    have N442 := Fr.app N441 N442q
    have E_ba_443 := E_ba_431.keep K442
    have E_bp_446 := E_bp_434.keep K442
    have F0_bp_447 := F0_bp_435.keep K442 (ninS (Ne.symm ne_ba_bp) nin0)
    have F1_bp_448 := F1_bp_436.keep K442 (ninS (Ne.symm ne_ba_bp) nin0)
    have V_cc_449 := V_cc_437.keep K442 (ninS (Ne.symm ne_ba_cc) nin0)
    have E_cc_450 := E_cc_438.keep K442
    have V_b1_451 := V429.keep K442 (ninS (Ne.symm ne_ba_b1) nin0)
    have Z455 : n0 ≤ T442.heap.size := Nat.le_trans Z439 (K442.1)
    have hk456 := Nat.le_trans hk440 (K442.1)
    have ltb1 := V_b1_451.lt
    obtain ⟨_, _, ⟨T457, L457, k457, n457⟩, -, X457, ⟨Lc457, hQ457, l457, y457, z457⟩, st457⟩ := Jvm.LawKit.callS X442 hx (y := (⟨"com/example/ledgerpost/ledgerpost/PayloadOfBytesPinLaw", "flip", "([BI)V"⟩ : MethodName)) hown422 (mvT hZ422 (hw _ (List.mem_of_getElem? (i := 62) rfl))) (mvT hZ422 (hw _ (List.mem_of_getElem? (i := 63) rfl))) (mvT hZ422 (hw _ (List.mem_of_getElem? (i := 60) rfl))) (mvT hZ422 (hw _ (List.mem_of_getElem? (i := 64) rfl))) (by decide) (backOf (W := 0) (rmF4 l Z a0 hw [] b1 k_ba (nar .byte (own_at8 p2 (0 : Int32))) (nar .byte (own_at8 p2 (1 : Int32))) (nar .byte (own_at8 p2 (2 : Int32))) (nar .byte (own_at8 p2 (3 : Int32))) T442.heap n0 Z455 V_b1_451 g_b1) hZ422 (hw _ (List.mem_of_getElem? (i := 64) rfl)) (hw _ (List.mem_of_getElem? (i := 60) rfl)) (by decide) (by decide)) (g := (mkF m 136 #[.val (.int p1), .val (.int p2), .val (.int (4 : Int32)), .val (.ref ba), .val (.ref bp), .val (.ref b1), .unset] [(.int (4 : Int32)), (.ref b1)])) rfl (by rw [hml]; rfl) (argsL := [(.ref b1), (.int (4 : Int32))]) (rest := []) (lenOf pd_9 rfl) rfl (by show 2 * 0 + _ ≤ _; exact Nat.le_of_eq rfl) (hb hby at_136) (fun _ _ => ⟨rfl, rfl, (by decide : 6 + 0 ≤ _), (by decide : 38 + 0 ≤ _)⟩)
    dsimp only [Pt.U, Pt.locs, Pt.cells, Pt.slots] at X457 l457 y457 z457 st457 hQ457
    subst l457 y457 z457
    obtain ⟨rfl, N457q, K457⟩ := hQ457
    have N457 := Fr.app N442 N457q
    have E_ba_458 := E_ba_443.keep K457
    have E_bp_461 := E_bp_446.keep K457
    have F0_bp_462 := F0_bp_447.keep K457 (ninS ne_bp_b1 nin0)
    have F1_bp_463 := F1_bp_448.keep K457 (ninS ne_bp_b1 nin0)
    have V_cc_464 := V_cc_449.keep K457 (ninS ne_cc_b1 nin0)
    have E_cc_465 := E_cc_450.keep K457
    have Z469 : n0 ≤ T457.heap.size := Nat.le_trans Z455 (K457.1)
    have hk470 := Nat.le_trans hk456 (K457.1)
    have lt_ba_b2 := E_ba_458.lt
    have lt_bp_b2 := E_bp_461.lt
    have lt_cc_b2 := E_cc_465.lt
    have lt_b1_b2 := Nat.lt_of_lt_of_le ltb1 K457.1
    obtain ⟨cq471, kq471, q471a, q471b, q471c⟩ := isOf hZ422 rfl E_bp_461
    obtain ⟨_, _, ⟨T471, L471, k471, n471⟩, -, X471, ⟨Lc471, hQ471, l471, y471, z471⟩, st471⟩ := X457.virtualBack hx (y := (⟨"com/example/ledgerpost/ledgerpost/Payload", "bytes", "()[B"⟩ : MethodName)) (z := (⟨"com/example/ledgerpost/ledgerpost/Payload", "bytes", "()[B"⟩ : MethodName)) hown422 (mvT hZ422 (hw _ (List.mem_of_getElem? (i := 53) rfl))) (mvT hZ422 (hw _ (List.mem_of_getElem? (i := 54) rfl))) (notFace_of_selects (args := #[]) (mvT hZ422 (hw _ (List.mem_of_getElem? (i := 56) rfl)))) (mvT hZ422 (hw _ (List.mem_of_getElem? (i := 56) rfl))) (mvT hZ422 (hw _ (List.mem_of_getElem? (i := 55) rfl))) (by decide) (backOf (W := 0) (rmB l Z a0 hw [] bp cc k_ba (4 : Int32) [(.int (nar .byte (own_at8 p2 (0 : Int32)))), (.int (nar .byte (own_at8 p2 (1 : Int32)))), (.int (nar .byte (own_at8 p2 (2 : Int32)))), (.int (nar .byte (own_at8 p2 (3 : Int32))))] T457.heap n0 Z469 F0_bp_462 F1_bp_463 V_cc_464 E_cc_465 (by decide)) hZ422 (hw _ (List.mem_of_getElem? (i := 57) rfl)) (hw _ (List.mem_of_getElem? (i := 4) rfl)) (by decide) (by decide)) q471a q471c (g := (mkF m 141 #[.val (.int p1), .val (.int p2), .val (.int (4 : Int32)), .val (.ref ba), .val (.ref bp), .val (.ref b1), .unset] [(.ref bp)])) rfl (by rw [hml]; rfl) (Steps.refl _) (argsL := []) (rest := []) (lenOf pd_7 rfl) rfl (by show 2 * 0 + _ ≤ _; exact Nat.le_of_eq rfl) (hb hby at_141) (fun _ _ => ⟨rfl, rfl, (by decide : 6 + 1 ≤ _), (by decide : 38 + 4 ≤ _)⟩)
    dsimp only [Pt.U, Pt.locs, Pt.cells, Pt.slots] at X471 l471 y471 z471 st471 hQ471
    subst l471 y471 z471
    obtain ⟨b2, rfl, N471q, K471, V471, l471, g471⟩ := hQ471
    have N471 := Fr.app N457 N471q
    have E_ba_472 := E_ba_458.keep K471
    have E_bp_475 := E_bp_461.keep K471
    have F0_bp_476 := F0_bp_462.keep K471 nin0
    have F1_bp_477 := F1_bp_463.keep K471 nin0
    have V_cc_478 := V_cc_464.keep K471 nin0
    have E_cc_479 := E_cc_465.keep K471
    have Z483 : n0 ≤ T471.heap.size := Nat.le_trans Z469 (K471.1)
    have hk484 := Nat.le_trans hk470 (K471.1)
    have ne_ba_b2 : ba ≠ b2 := Nat.ne_of_lt (Nat.lt_of_lt_of_le lt_ba_b2 l471)
    have ne_b1_b2 : b1 ≠ b2 := Nat.ne_of_lt (Nat.lt_of_lt_of_le lt_b1_b2 l471)
    obtain ⟨_, _, ⟨T485, L485, k485, n485⟩, -, X485, ⟨Lc485, hQ485, l485, y485, z485⟩, st485⟩ := Jvm.LawKit.callS X471 hx (y := (⟨"com/example/ledgerpost/ledgerpost/PayloadOfBytesPinLaw", "holds", "([BII)Z"⟩ : MethodName)) hown422 (mvT hZ422 (hw _ (List.mem_of_getElem? (i := 58) rfl))) (mvT hZ422 (hw _ (List.mem_of_getElem? (i := 59) rfl))) (mvT hZ422 (hw _ (List.mem_of_getElem? (i := 60) rfl))) (mvT hZ422 (hw _ (List.mem_of_getElem? (i := 61) rfl))) (by decide) (backOf (W := 0) (rmH4 l Z a0 hw [] b2 p2 k_ba T471.heap n0 Z483 V471) hZ422 (hw _ (List.mem_of_getElem? (i := 61) rfl)) (hw _ (List.mem_of_getElem? (i := 60) rfl)) (by decide) (by decide)) (g := (mkF m 165 #[.val (.int p1), .val (.int p2), .val (.int (4 : Int32)), .val (.ref ba), .val (.ref bp), .val (.ref b1), .val (.ref b2)] [(.int p2), (.int (4 : Int32)), (.ref b2)])) rfl (by rw [hml]; rfl) (argsL := [(.ref b2), (.int (4 : Int32)), (.int p2)]) (rest := []) (lenOf pd_8 rfl) rfl (by show 2 * 0 + _ ≤ _; exact Nat.le_of_eq rfl) (hb hby at_165) (fun _ _ => ⟨rfl, rfl, (by decide : 7 + 0 ≤ _), (by decide : 42 + 0 ≤ _)⟩)
    dsimp only [Pt.U, Pt.locs, Pt.cells, Pt.slots] at X485 l485 y485 z485 st485 hQ485
    subst l485 y485 z485
    obtain ⟨rfl, N485q, e485⟩ := hQ485
    have N485 := Fr.app N471 N485q
    have pre486 : ∀ t_, Steps p.tables e below (T485.setTop (mkF m 168 #[.val (.int p1), .val (.int p2), .val (.int (4 : Int32)), .val (.ref ba), .val (.ref bp), .val (.ref b1), .val (.ref b2)] [(.int (1 : Int32))])) t_ → Steps p.tables e below (s₁.setTop (entryFrame m #[(.int p1), (.int p2)] maxLocals)) t_ := fun t_ k_ => pre101 _ (by
      show Steps p.tables e below (s₁.setTop (mkF m 7 #[.val (.int p1), .val (.int p2), .val (.int (4 : Int32)), .unset, .unset, .unset, .unset] [])) _
      refine XS.iloadN X0.here hx rfl (hb hby at_7) rfl ?_
      show Steps p.tables e below (s₁.setTop (mkF m 8 #[.val (.int p1), .val (.int p2), .val (.int (4 : Int32)), .unset, .unset, .unset, .unset] [(.int (4 : Int32))])) _
      refine st400 _ ?_
      show Steps p.tables e below (T400.setTop (mkF m 10 #[.val (.int p1), .val (.int p2), .val (.int (4 : Int32)), .unset, .unset, .unset, .unset] [(.ref ba)])) _
      refine XS.astoreN X400.here hx rfl (hb hby at_10) rfl rfl (l' := #[.val (.int p1), .val (.int p2), .val (.int (4 : Int32)), .val (.ref ba), .unset, .unset, .unset]) rfl ?_
      show Steps p.tables e below (T400.setTop (mkF m 11 #[.val (.int p1), .val (.int p2), .val (.int (4 : Int32)), .val (.ref ba), .unset, .unset, .unset] [])) _
      refine XS.iloadN X400.here hx rfl (hb hby at_11) rfl ?_
      show Steps p.tables e below (T400.setTop (mkF m 12 #[.val (.int p1), .val (.int p2), .val (.int (4 : Int32)), .val (.ref ba), .unset, .unset, .unset] [(.int (4 : Int32))])) _
      refine XS.ifNo X400.here hx rfl (hb hby at_12) rfl ((if0 _ _).trans (tlt (by decide)).2.2.2) ?_
      show Steps p.tables e below (T400.setTop (mkF m 15 #[.val (.int p1), .val (.int p2), .val (.int (4 : Int32)), .val (.ref ba), .unset, .unset, .unset] [])) _
      refine XS.aloadN X400.here hx rfl (hb hby at_15) rfl rfl ?_
      show Steps p.tables e below (T400.setTop (mkF m 16 #[.val (.int p1), .val (.int p2), .val (.int (4 : Int32)), .val (.ref ba), .unset, .unset, .unset] [(.ref ba)])) _
      refine XS.iconst X400.here hx rfl (hb hby at_16) ?_
      show Steps p.tables e below (T400.setTop (mkF m 17 #[.val (.int p1), .val (.int p2), .val (.int (4 : Int32)), .val (.ref ba), .unset, .unset, .unset] [(.int (0 : Int32)), (.ref ba)])) _
      refine XS.iloadN X400.here hx rfl (hb hby at_17) rfl ?_
      show Steps p.tables e below (T400.setTop (mkF m 18 #[.val (.int p1), .val (.int p2), .val (.int (4 : Int32)), .val (.ref ba), .unset, .unset, .unset] [(.int p2), (.int (0 : Int32)), (.ref ba)])) _
      refine XS.iconst X400.here hx rfl (hb hby at_18) ?_
      show Steps p.tables e below (T400.setTop (mkF m 19 #[.val (.int p1), .val (.int p2), .val (.int (4 : Int32)), .val (.ref ba), .unset, .unset, .unset] [(.int (0 : Int32)), (.int p2), (.int (0 : Int32)), (.ref ba)])) _
      refine st402 _ ?_
      show Steps p.tables e below (T402.setTop (mkF m 22 #[.val (.int p1), .val (.int p2), .val (.int (4 : Int32)), .val (.ref ba), .unset, .unset, .unset] [(.int (own_at8 p2 (0 : Int32))), (.int (0 : Int32)), (.ref ba)])) _
      refine st404 _ ?_
      show Steps p.tables e below (T404.setTop (mkF m 23 #[.val (.int p1), .val (.int p2), .val (.int (4 : Int32)), .val (.ref ba), .unset, .unset, .unset] [])) _
      refine XS.iloadN X404.here hx rfl (hb hby at_23) rfl ?_
      show Steps p.tables e below (T404.setTop (mkF m 24 #[.val (.int p1), .val (.int p2), .val (.int (4 : Int32)), .val (.ref ba), .unset, .unset, .unset] [(.int (4 : Int32))])) _
      refine XS.iconst X404.here hx rfl (hb hby at_24) ?_
      show Steps p.tables e below (T404.setTop (mkF m 25 #[.val (.int p1), .val (.int p2), .val (.int (4 : Int32)), .val (.ref ba), .unset, .unset, .unset] [(.int (1 : Int32)), (.int (4 : Int32))])) _
      refine XS.icmpNo X404.here hx rfl (hb hby at_25) rfl (tlt (by decide)).2.2.2 ?_
      show Steps p.tables e below (T404.setTop (mkF m 28 #[.val (.int p1), .val (.int p2), .val (.int (4 : Int32)), .val (.ref ba), .unset, .unset, .unset] [])) _
      refine XS.aloadN X404.here hx rfl (hb hby at_28) rfl rfl ?_
      show Steps p.tables e below (T404.setTop (mkF m 29 #[.val (.int p1), .val (.int p2), .val (.int (4 : Int32)), .val (.ref ba), .unset, .unset, .unset] [(.ref ba)])) _
      refine XS.iconst X404.here hx rfl (hb hby at_29) ?_
      show Steps p.tables e below (T404.setTop (mkF m 30 #[.val (.int p1), .val (.int p2), .val (.int (4 : Int32)), .val (.ref ba), .unset, .unset, .unset] [(.int (1 : Int32)), (.ref ba)])) _
      refine XS.iloadN X404.here hx rfl (hb hby at_30) rfl ?_
      show Steps p.tables e below (T404.setTop (mkF m 31 #[.val (.int p1), .val (.int p2), .val (.int (4 : Int32)), .val (.ref ba), .unset, .unset, .unset] [(.int p2), (.int (1 : Int32)), (.ref ba)])) _
      refine XS.iconst X404.here hx rfl (hb hby at_31) ?_
      show Steps p.tables e below (T404.setTop (mkF m 32 #[.val (.int p1), .val (.int p2), .val (.int (4 : Int32)), .val (.ref ba), .unset, .unset, .unset] [(.int (1 : Int32)), (.int p2), (.int (1 : Int32)), (.ref ba)])) _
      refine st407 _ ?_
      show Steps p.tables e below (T407.setTop (mkF m 35 #[.val (.int p1), .val (.int p2), .val (.int (4 : Int32)), .val (.ref ba), .unset, .unset, .unset] [(.int (own_at8 p2 (1 : Int32))), (.int (1 : Int32)), (.ref ba)])) _
      refine st409 _ ?_
      show Steps p.tables e below (T409.setTop (mkF m 36 #[.val (.int p1), .val (.int p2), .val (.int (4 : Int32)), .val (.ref ba), .unset, .unset, .unset] [])) _
      refine XS.iloadN X409.here hx rfl (hb hby at_36) rfl ?_
      show Steps p.tables e below (T409.setTop (mkF m 37 #[.val (.int p1), .val (.int p2), .val (.int (4 : Int32)), .val (.ref ba), .unset, .unset, .unset] [(.int (4 : Int32))])) _
      refine XS.iconst X409.here hx rfl (hb hby at_37) ?_
      show Steps p.tables e below (T409.setTop (mkF m 38 #[.val (.int p1), .val (.int p2), .val (.int (4 : Int32)), .val (.ref ba), .unset, .unset, .unset] [(.int (2 : Int32)), (.int (4 : Int32))])) _
      refine XS.icmpNo X409.here hx rfl (hb hby at_38) rfl (tlt (by decide)).2.2.2 ?_
      show Steps p.tables e below (T409.setTop (mkF m 41 #[.val (.int p1), .val (.int p2), .val (.int (4 : Int32)), .val (.ref ba), .unset, .unset, .unset] [])) _
      refine XS.aloadN X409.here hx rfl (hb hby at_41) rfl rfl ?_
      show Steps p.tables e below (T409.setTop (mkF m 42 #[.val (.int p1), .val (.int p2), .val (.int (4 : Int32)), .val (.ref ba), .unset, .unset, .unset] [(.ref ba)])) _
      refine XS.iconst X409.here hx rfl (hb hby at_42) ?_
      show Steps p.tables e below (T409.setTop (mkF m 43 #[.val (.int p1), .val (.int p2), .val (.int (4 : Int32)), .val (.ref ba), .unset, .unset, .unset] [(.int (2 : Int32)), (.ref ba)])) _
      refine XS.iloadN X409.here hx rfl (hb hby at_43) rfl ?_
      show Steps p.tables e below (T409.setTop (mkF m 44 #[.val (.int p1), .val (.int p2), .val (.int (4 : Int32)), .val (.ref ba), .unset, .unset, .unset] [(.int p2), (.int (2 : Int32)), (.ref ba)])) _
      refine XS.iconst X409.here hx rfl (hb hby at_44) ?_
      show Steps p.tables e below (T409.setTop (mkF m 45 #[.val (.int p1), .val (.int p2), .val (.int (4 : Int32)), .val (.ref ba), .unset, .unset, .unset] [(.int (2 : Int32)), (.int p2), (.int (2 : Int32)), (.ref ba)])) _
      refine st412 _ ?_
      show Steps p.tables e below (T412.setTop (mkF m 48 #[.val (.int p1), .val (.int p2), .val (.int (4 : Int32)), .val (.ref ba), .unset, .unset, .unset] [(.int (own_at8 p2 (2 : Int32))), (.int (2 : Int32)), (.ref ba)])) _
      refine st414 _ ?_
      show Steps p.tables e below (T414.setTop (mkF m 49 #[.val (.int p1), .val (.int p2), .val (.int (4 : Int32)), .val (.ref ba), .unset, .unset, .unset] [])) _
      refine XS.iloadN X414.here hx rfl (hb hby at_49) rfl ?_
      show Steps p.tables e below (T414.setTop (mkF m 50 #[.val (.int p1), .val (.int p2), .val (.int (4 : Int32)), .val (.ref ba), .unset, .unset, .unset] [(.int (4 : Int32))])) _
      refine XS.iconst X414.here hx rfl (hb hby at_50) ?_
      show Steps p.tables e below (T414.setTop (mkF m 51 #[.val (.int p1), .val (.int p2), .val (.int (4 : Int32)), .val (.ref ba), .unset, .unset, .unset] [(.int (3 : Int32)), (.int (4 : Int32))])) _
      refine XS.icmpNo X414.here hx rfl (hb hby at_51) rfl (tlt (by decide)).2.2.2 ?_
      show Steps p.tables e below (T414.setTop (mkF m 54 #[.val (.int p1), .val (.int p2), .val (.int (4 : Int32)), .val (.ref ba), .unset, .unset, .unset] [])) _
      refine XS.aloadN X414.here hx rfl (hb hby at_54) rfl rfl ?_
      show Steps p.tables e below (T414.setTop (mkF m 55 #[.val (.int p1), .val (.int p2), .val (.int (4 : Int32)), .val (.ref ba), .unset, .unset, .unset] [(.ref ba)])) _
      refine XS.iconst X414.here hx rfl (hb hby at_55) ?_
      show Steps p.tables e below (T414.setTop (mkF m 56 #[.val (.int p1), .val (.int p2), .val (.int (4 : Int32)), .val (.ref ba), .unset, .unset, .unset] [(.int (3 : Int32)), (.ref ba)])) _
      refine XS.iloadN X414.here hx rfl (hb hby at_56) rfl ?_
      show Steps p.tables e below (T414.setTop (mkF m 57 #[.val (.int p1), .val (.int p2), .val (.int (4 : Int32)), .val (.ref ba), .unset, .unset, .unset] [(.int p2), (.int (3 : Int32)), (.ref ba)])) _
      refine XS.iconst X414.here hx rfl (hb hby at_57) ?_
      show Steps p.tables e below (T414.setTop (mkF m 58 #[.val (.int p1), .val (.int p2), .val (.int (4 : Int32)), .val (.ref ba), .unset, .unset, .unset] [(.int (3 : Int32)), (.int p2), (.int (3 : Int32)), (.ref ba)])) _
      refine st417 _ ?_
      show Steps p.tables e below (T417.setTop (mkF m 61 #[.val (.int p1), .val (.int p2), .val (.int (4 : Int32)), .val (.ref ba), .unset, .unset, .unset] [(.int (own_at8 p2 (3 : Int32))), (.int (3 : Int32)), (.ref ba)])) _
      refine st419 _ ?_
      show Steps p.tables e below (T419.setTop (mkF m 62 #[.val (.int p1), .val (.int p2), .val (.int (4 : Int32)), .val (.ref ba), .unset, .unset, .unset] [])) _
      refine XS.aloadN X419.here hx rfl (hb hby at_62) rfl rfl ?_
      show Steps p.tables e below (T419.setTop (mkF m 63 #[.val (.int p1), .val (.int p2), .val (.int (4 : Int32)), .val (.ref ba), .unset, .unset, .unset] [(.ref ba)])) _
      refine st422.trans ?_
      show Steps p.tables e below (T422.setTop (mkF m 66 #[.val (.int p1), .val (.int p2), .val (.int (4 : Int32)), .val (.ref ba), .unset, .unset, .unset] [(.ref bp)])) _
      refine XS.astore X422'.here hx rfl (hb hby at_66) rfl rfl (l' := #[.val (.int p1), .val (.int p2), .val (.int (4 : Int32)), .val (.ref ba), .val (.ref bp), .unset, .unset]) rfl ?_
      show Steps p.tables e below (T422.setTop (mkF m 68 #[.val (.int p1), .val (.int p2), .val (.int (4 : Int32)), .val (.ref ba), .val (.ref bp), .unset, .unset] [])) _
      refine XS.aload X422'.here hx rfl (hb hby at_68) rfl rfl ?_
      show Steps p.tables e below (T422.setTop (mkF m 70 #[.val (.int p1), .val (.int p2), .val (.int (4 : Int32)), .val (.ref ba), .val (.ref bp), .unset, .unset] [(.ref bp)])) _
      refine st426.trans ?_
      show Steps p.tables e below (T426.setTop (mkF m 73 #[.val (.int p1), .val (.int p2), .val (.int (4 : Int32)), .val (.ref ba), .val (.ref bp), .unset, .unset] [(.int (0 : Int32))])) _
      refine XS.ifYes X426.here hx rfl (pc0 := 73) (pc' := 78) rfl (hb hby at_73) rfl ((if0 _ _).trans (teq (rfl : (0 : Int32) = 0)).1) (by decide) (by decide) ?_
      show Steps p.tables e below (T426.setTop (mkF m 78 #[.val (.int p1), .val (.int p2), .val (.int (4 : Int32)), .val (.ref ba), .val (.ref bp), .unset, .unset] [])) _
      refine XS.aload X426.here hx rfl (hb hby at_78) rfl rfl ?_
      show Steps p.tables e below (T426.setTop (mkF m 80 #[.val (.int p1), .val (.int p2), .val (.int (4 : Int32)), .val (.ref ba), .val (.ref bp), .unset, .unset] [(.ref bp)])) _
      refine st427.trans ?_
      show Steps p.tables e below (T427.setTop (mkF m 83 #[.val (.int p1), .val (.int p2), .val (.int (4 : Int32)), .val (.ref ba), .val (.ref bp), .unset, .unset] [.null])) _
      refine XS.ifnullYes X427.here hx rfl (pc0 := 83) (pc' := 88) rfl (hb hby at_83) rfl (by decide) (by decide) ?_
      show Steps p.tables e below (T427.setTop (mkF m 88 #[.val (.int p1), .val (.int p2), .val (.int (4 : Int32)), .val (.ref ba), .val (.ref bp), .unset, .unset] [])) _
      refine XS.aload X427.here hx rfl (hb hby at_88) rfl rfl ?_
      show Steps p.tables e below (T427.setTop (mkF m 90 #[.val (.int p1), .val (.int p2), .val (.int (4 : Int32)), .val (.ref ba), .val (.ref bp), .unset, .unset] [(.ref bp)])) _
      refine st428.trans ?_
      show Steps p.tables e below (T428.setTop (mkF m 93 #[.val (.int p1), .val (.int p2), .val (.int (4 : Int32)), .val (.ref ba), .val (.ref bp), .unset, .unset] [(.long ((4 : Int32).toInt64))])) _
      refine XS.iloadN X428.here hx rfl (hb hby at_93) rfl ?_
      show Steps p.tables e below (T428.setTop (mkF m 94 #[.val (.int p1), .val (.int p2), .val (.int (4 : Int32)), .val (.ref ba), .val (.ref bp), .unset, .unset] [(.int (4 : Int32)), (.long ((4 : Int32).toInt64))])) _
      refine XS.i2l X428.here hx rfl (hb hby at_94) rfl ?_
      show Steps p.tables e below (T428.setTop (mkF m 95 #[.val (.int p1), .val (.int p2), .val (.int (4 : Int32)), .val (.ref ba), .val (.ref bp), .unset, .unset] [(.long ((4 : Int32).toInt64)), (.long ((4 : Int32).toInt64))])) _
      refine XS.lcmp X428.here hx rfl (hb hby at_95) rfl ?_
      show Steps p.tables e below (T428.setTop (mkF m 96 #[.val (.int p1), .val (.int p2), .val (.int (4 : Int32)), .val (.ref ba), .val (.ref bp), .unset, .unset] [(.int (lcmpW ((4 : Int32).toInt64) ((4 : Int32).toInt64)))])) _
      refine XS.ifYes X428.here hx rfl (pc0 := 96) (pc' := 101) rfl (hb hby at_96) rfl ((if0 _ _).trans (teq ((lw_eq _ _).mpr rfl)).1) (by decide) (by decide) ?_
      show Steps p.tables e below (T428.setTop (mkF m 101 #[.val (.int p1), .val (.int p2), .val (.int (4 : Int32)), .val (.ref ba), .val (.ref bp), .unset, .unset] [])) _
      refine XS.aload X428.here hx rfl (hb hby at_101) rfl rfl ?_
      show Steps p.tables e below (T428.setTop (mkF m 103 #[.val (.int p1), .val (.int p2), .val (.int (4 : Int32)), .val (.ref ba), .val (.ref bp), .unset, .unset] [(.ref bp)])) _
      refine st429.trans ?_
      show Steps p.tables e below (T429.setTop (mkF m 106 #[.val (.int p1), .val (.int p2), .val (.int (4 : Int32)), .val (.ref ba), .val (.ref bp), .unset, .unset] [(.ref b1)])) _
      refine XS.astore X429.here hx rfl (hb hby at_106) rfl rfl (l' := #[.val (.int p1), .val (.int p2), .val (.int (4 : Int32)), .val (.ref ba), .val (.ref bp), .val (.ref b1), .unset]) rfl ?_
      show Steps p.tables e below (T429.setTop (mkF m 108 #[.val (.int p1), .val (.int p2), .val (.int (4 : Int32)), .val (.ref ba), .val (.ref bp), .val (.ref b1), .unset] [])) _
      refine XS.aload X429.here hx rfl (hb hby at_108) rfl rfl ?_
      show Steps p.tables e below (T429.setTop (mkF m 110 #[.val (.int p1), .val (.int p2), .val (.int (4 : Int32)), .val (.ref ba), .val (.ref bp), .val (.ref b1), .unset] [(.ref b1)])) _
      refine XS.aloadN X429.here hx rfl (hb hby at_110) rfl rfl ?_
      show Steps p.tables e below (T429.setTop (mkF m 111 #[.val (.int p1), .val (.int p2), .val (.int (4 : Int32)), .val (.ref ba), .val (.ref bp), .val (.ref b1), .unset] [(.ref ba), (.ref b1)])) _
      refine Jvm.RoadKit.acmp (g := (mkF m 111 #[.val (.int p1), .val (.int p2), .val (.int (4 : Int32)), .val (.ref ba), .val (.ref bp), .val (.ref b1), .unset] [(.ref ba), (.ref b1)])) X429 hx rfl rfl rfl (pc0 := 111) (pc' := 116) (same := false) rfl (hb hby at_111) rfl (decide_eq_false fun q => (Ne.symm ne_ba_b1) (Value.ref.inj q)) (by decide) (by decide) ?_
      show Steps p.tables e below (T429.setTop (mkF m 116 #[.val (.int p1), .val (.int p2), .val (.int (4 : Int32)), .val (.ref ba), .val (.ref bp), .val (.ref b1), .unset] [])) _
      refine XS.aload X429.here hx rfl (hb hby at_116) rfl rfl ?_
      show Steps p.tables e below (T429.setTop (mkF m 118 #[.val (.int p1), .val (.int p2), .val (.int (4 : Int32)), .val (.ref ba), .val (.ref bp), .val (.ref b1), .unset] [(.ref b1)])) _
      refine XS.iloadN X429.here hx rfl (hb hby at_118) rfl ?_
      show Steps p.tables e below (T429.setTop (mkF m 119 #[.val (.int p1), .val (.int p2), .val (.int (4 : Int32)), .val (.ref ba), .val (.ref bp), .val (.ref b1), .unset] [(.int (4 : Int32)), (.ref b1)])) _
      refine XS.iloadN X429.here hx rfl (hb hby at_119) rfl ?_
      show Steps p.tables e below (T429.setTop (mkF m 120 #[.val (.int p1), .val (.int p2), .val (.int (4 : Int32)), .val (.ref ba), .val (.ref bp), .val (.ref b1), .unset] [(.int p2), (.int (4 : Int32)), (.ref b1)])) _
      refine st441 _ ?_
      show Steps p.tables e below (T441.setTop (mkF m 123 #[.val (.int p1), .val (.int p2), .val (.int (4 : Int32)), .val (.ref ba), .val (.ref bp), .val (.ref b1), .unset] [(.int (1 : Int32))])) _
      refine XS.ifYes X441.here hx rfl (pc0 := 123) (pc' := 128) rfl (hb hby at_123) rfl ((if0 _ _).trans (feq (by decide : ¬ (1 : Int32) = 0)).2) (by decide) (by decide) ?_
      show Steps p.tables e below (T441.setTop (mkF m 128 #[.val (.int p1), .val (.int p2), .val (.int (4 : Int32)), .val (.ref ba), .val (.ref bp), .val (.ref b1), .unset] [])) _
      refine XS.aloadN X441.here hx rfl (hb hby at_128) rfl rfl ?_
      show Steps p.tables e below (T441.setTop (mkF m 129 #[.val (.int p1), .val (.int p2), .val (.int (4 : Int32)), .val (.ref ba), .val (.ref bp), .val (.ref b1), .unset] [(.ref ba)])) _
      refine XS.iloadN X441.here hx rfl (hb hby at_129) rfl ?_
      show Steps p.tables e below (T441.setTop (mkF m 130 #[.val (.int p1), .val (.int p2), .val (.int (4 : Int32)), .val (.ref ba), .val (.ref bp), .val (.ref b1), .unset] [(.int (4 : Int32)), (.ref ba)])) _
      refine st442 _ ?_
      show Steps p.tables e below (T442.setTop (mkF m 133 #[.val (.int p1), .val (.int p2), .val (.int (4 : Int32)), .val (.ref ba), .val (.ref bp), .val (.ref b1), .unset] [])) _
      refine XS.aload X442.here hx rfl (hb hby at_133) rfl rfl ?_
      show Steps p.tables e below (T442.setTop (mkF m 135 #[.val (.int p1), .val (.int p2), .val (.int (4 : Int32)), .val (.ref ba), .val (.ref bp), .val (.ref b1), .unset] [(.ref b1)])) _
      refine XS.iloadN X442.here hx rfl (hb hby at_135) rfl ?_
      show Steps p.tables e below (T442.setTop (mkF m 136 #[.val (.int p1), .val (.int p2), .val (.int (4 : Int32)), .val (.ref ba), .val (.ref bp), .val (.ref b1), .unset] [(.int (4 : Int32)), (.ref b1)])) _
      refine st457 _ ?_
      show Steps p.tables e below (T457.setTop (mkF m 139 #[.val (.int p1), .val (.int p2), .val (.int (4 : Int32)), .val (.ref ba), .val (.ref bp), .val (.ref b1), .unset] [])) _
      refine XS.aload X457.here hx rfl (hb hby at_139) rfl rfl ?_
      show Steps p.tables e below (T457.setTop (mkF m 141 #[.val (.int p1), .val (.int p2), .val (.int (4 : Int32)), .val (.ref ba), .val (.ref bp), .val (.ref b1), .unset] [(.ref bp)])) _
      refine st471.trans ?_
      show Steps p.tables e below (T471.setTop (mkF m 144 #[.val (.int p1), .val (.int p2), .val (.int (4 : Int32)), .val (.ref ba), .val (.ref bp), .val (.ref b1), .unset] [(.ref b2)])) _
      refine XS.astore X471.here hx rfl (hb hby at_144) rfl rfl (l' := #[.val (.int p1), .val (.int p2), .val (.int (4 : Int32)), .val (.ref ba), .val (.ref bp), .val (.ref b1), .val (.ref b2)]) rfl ?_
      show Steps p.tables e below (T471.setTop (mkF m 146 #[.val (.int p1), .val (.int p2), .val (.int (4 : Int32)), .val (.ref ba), .val (.ref bp), .val (.ref b1), .val (.ref b2)] [])) _
      refine XS.aload X471.here hx rfl (hb hby at_146) rfl rfl ?_
      show Steps p.tables e below (T471.setTop (mkF m 148 #[.val (.int p1), .val (.int p2), .val (.int (4 : Int32)), .val (.ref ba), .val (.ref bp), .val (.ref b1), .val (.ref b2)] [(.ref b2)])) _
      refine XS.aload X471.here hx rfl (hb hby at_148) rfl rfl ?_
      show Steps p.tables e below (T471.setTop (mkF m 150 #[.val (.int p1), .val (.int p2), .val (.int (4 : Int32)), .val (.ref ba), .val (.ref bp), .val (.ref b1), .val (.ref b2)] [(.ref b1), (.ref b2)])) _
      refine Jvm.RoadKit.acmp (g := (mkF m 150 #[.val (.int p1), .val (.int p2), .val (.int (4 : Int32)), .val (.ref ba), .val (.ref bp), .val (.ref b1), .val (.ref b2)] [(.ref b1), (.ref b2)])) X471 hx rfl rfl rfl (pc0 := 150) (pc' := 153) (same := false) rfl (hb hby at_150) rfl (decide_eq_false fun q => ne_b1_b2.symm (Value.ref.inj q)) (by decide) (by decide) ?_
      show Steps p.tables e below (T471.setTop (mkF m 153 #[.val (.int p1), .val (.int p2), .val (.int (4 : Int32)), .val (.ref ba), .val (.ref bp), .val (.ref b1), .val (.ref b2)] [])) _
      refine XS.aload X471.here hx rfl (hb hby at_153) rfl rfl ?_
      show Steps p.tables e below (T471.setTop (mkF m 155 #[.val (.int p1), .val (.int p2), .val (.int (4 : Int32)), .val (.ref ba), .val (.ref bp), .val (.ref b1), .val (.ref b2)] [(.ref b2)])) _
      refine XS.aloadN X471.here hx rfl (hb hby at_155) rfl rfl ?_
      show Steps p.tables e below (T471.setTop (mkF m 156 #[.val (.int p1), .val (.int p2), .val (.int (4 : Int32)), .val (.ref ba), .val (.ref bp), .val (.ref b1), .val (.ref b2)] [(.ref ba), (.ref b2)])) _
      refine Jvm.RoadKit.acmp (g := (mkF m 156 #[.val (.int p1), .val (.int p2), .val (.int (4 : Int32)), .val (.ref ba), .val (.ref bp), .val (.ref b1), .val (.ref b2)] [(.ref ba), (.ref b2)])) X471 hx rfl rfl rfl (pc0 := 156) (pc' := 161) (same := false) rfl (hb hby at_156) rfl (decide_eq_false fun q => ne_ba_b2.symm (Value.ref.inj q)) (by decide) (by decide) ?_
      show Steps p.tables e below (T471.setTop (mkF m 161 #[.val (.int p1), .val (.int p2), .val (.int (4 : Int32)), .val (.ref ba), .val (.ref bp), .val (.ref b1), .val (.ref b2)] [])) _
      refine XS.aload X471.here hx rfl (hb hby at_161) rfl rfl ?_
      show Steps p.tables e below (T471.setTop (mkF m 163 #[.val (.int p1), .val (.int p2), .val (.int (4 : Int32)), .val (.ref ba), .val (.ref bp), .val (.ref b1), .val (.ref b2)] [(.ref b2)])) _
      refine XS.iloadN X471.here hx rfl (hb hby at_163) rfl ?_
      show Steps p.tables e below (T471.setTop (mkF m 164 #[.val (.int p1), .val (.int p2), .val (.int (4 : Int32)), .val (.ref ba), .val (.ref bp), .val (.ref b1), .val (.ref b2)] [(.int (4 : Int32)), (.ref b2)])) _
      refine XS.iloadN X471.here hx rfl (hb hby at_164) rfl ?_
      show Steps p.tables e below (T471.setTop (mkF m 165 #[.val (.int p1), .val (.int p2), .val (.int (4 : Int32)), .val (.ref ba), .val (.ref bp), .val (.ref b1), .val (.ref b2)] [(.int p2), (.int (4 : Int32)), (.ref b2)])) _
      refine st485 _ ?_
      exact k_)
    obtain ⟨fs, hr, hrun, hended, hWr, hW1, hW2, hsame⟩ := Jvm.Stand.leaveW (s := s) X485 hS422' (by rw [e485]; exact hk484) (v := some (.int (1 : Int32))) (fun h => by rw [Bd.returns] at h; cases h)
    refine ⟨_, _, pre486 _ ?_, hrun, hended, _, _, rfl, ?_, hWr, hW1, hW2, hsame.mono (by decide) (by decide)⟩
    · show Steps p.tables e below (T485.setTop (mkF m 168 #[.val (.int p1), .val (.int p2), .val (.int (4 : Int32)), .val (.ref ba), .val (.ref bp), .val (.ref b1), .val (.ref b2)] [(.int (1 : Int32))])) _
      exact retN X485 hx (t := .boolean) Bd.returns (by simp) (hb hby at_168) hr
    · show Qrm0 Z p1 p2 h0 n0 _ T485.heap _
      rw [e485]
      exact ⟨rfl, N485⟩
set_option maxRecDepth 65536 in
set_option maxHeartbeats 40000000 in
theorem comes_1 {Post : Tables → Env → Array Value → State → Outcome → State → Prop} (hpost : ∀ tb e args s v u, (limb_1_1.after args s (.returned v) u = true ∧ limb_1_2.after args s (.returned v) u = true ∧ True) → ReturnedEndW s (.returned v) u (Jvm.fieldLocs frame_1_writes args s ++ Jvm.arrayLocs frame_1_arrays args s ++ Jvm.staticLocs frame_1_statics s) 24 1152 → Post tb e args s (.returned v) u) :
    ArmFor flags0 classFile x code maxLocals ret World_1 tables_1 room_1 Calls_1 rest_1 Pre_1 Post := by
  intro l hfl _ _ p e ha hc hk s m args below hf hA hF happ hP
  obtain ⟨hcalls, hrest, hpre⟩ := hP
  obtain ⟨-, -, -, hnamed, -, -, -, hat⟩ := (Spec.applies_iff hf).mp happ
  obtain ⟨hg, hn⟩ := and_e (Cond.before_iff.mp (show (Jvm.Cond.and given_1 narrow_1).before args s = true from hpre))
  obtain ⟨gg1, gg2⟩ := and_e hg
  obtain ⟨gg3, gg4⟩ := and_e gg2
  obtain ⟨w0, w1, rfl⟩ : ∃ w0 w1 : Value, args = #[w0, w1] := by
    have hs : args.size = 2 := by simpa [Cond.value, given_1] using gg1
    obtain ⟨L⟩ := args
    match L, hs with
    | [w0, w1], _ => exact ⟨w0, w1, rfl⟩
  have hw := fun d (hd : d ∈ tables_1) => atoms_spec (ws := Jvm.Cond.code x code maxLocals ret :: tables_1) hat d (List.mem_cons_of_mem _ hd)
  have hfit : Fit s := fun {y c} hc i hi => by
    obtain ⟨ha, rfl⟩ := Array.getElem?_eq_some_iff.mp hc
    have q := List.all_eq_true.mp ((Array.all_eq_true_iff_forall_mem.mp hF) _ (Array.getElem_mem ha)) i (List.mem_range.mpr hi)
    simpa [Array.getElem?_eq_getElem hi] using q
  obtain ⟨i0, ei0⟩ := is_v gg3
  obtain rfl : w0 = (.int i0) := Option.some.inj ei0
  obtain ⟨i1, ei1⟩ := is_v gg4
  obtain rfl : w1 = (.int i1) := Option.some.inj ei1
  obtain ⟨n, o, h1, h2, h3, _, L, rfl, ⟨rfl, N⟩, hq⟩ := rm0 l s _ hw tables_1 i0 i1 s.heap s.heap.size (Nat.le_refl _)  p e ha hc hk s m _ below hf ((Spec.applies_iff_loose hf).mp happ).1 ⟨rfl, State.Warmed39.refl s, rfl⟩ trivial
  refine ⟨n, _, h1, h2, h3, hpost _ _ _ _ _ _ ⟨Cond.after_iff.mpr rfl, Cond.after_iff.mpr (eq_i res_at (Term.int_eval (1)) rfl), trivial⟩ ⟨hq.1, hq.2.1, hq.2.2.1, (hq.2.2.2.sift fun y hy => Or.inr (N y hy)).mono (by decide) (by decide)⟩⟩
theorem main_1_1 : Claimed_1_1 := comes_1 fun _ _ _ _ _ _ h hF => ⟨h.1, hF⟩
theorem main_1_2 : Claimed_1_2 := comes_1 fun _ _ _ _ _ _ h hF => ⟨h.2.1, hF⟩
end Jvm.Pilot.@@N@@
namespace Jvm.Pilot.@@N@@
open Jvm Jvm.ClassFile Sem Op Lib Jvm.Free Jvm.Stand Jvm.Pilot.@@N@@.Jvm.D
/-! MADE BY PROGRAM (witnessworld.py) out of the Statement's table words and the real class files: 15 classes; the members and pool entries that the words name. The judged class is class 1, her method 4. -/
namespace start1
open Jvm.ClassFile
def u (s : String) : CpInfo := .utf8 (stringToUtf16 s)
/-- a pool by its gaps: so many unusable entries, then the entry; so many at the end -/
def gap : Nat → List CpInfo → List CpInfo
  | 0, r => r
  | n + 1, r => .unusable :: gap n r
def poolList (es : List (Nat × CpInfo)) (last : Nat) : List CpInfo := es.foldr (fun e r => gap e.1 (e.2 :: r)) (gap last [])
def pool (es : List (Nat × CpInfo)) (last : Nat) : Array CpInfo := ⟨poolList es last⟩
def fileOf (pool : Array CpInfo) (this : Nat) (attrs : Array Attribute := #[]) (ms : Array MethodInfo := #[]) (fl : Nat := 33) (sup : Nat := 0) (ifs : Array Nat := #[]) (fds : Array FieldInfo := #[]) : ClassFile where
  minorVersion := 0
  majorVersion := 65
  constantPool := pool
  accessFlags := fl
  thisClass := this
  superClass := sup
  interfaces := ifs
  fields := fds
  methods := ms
  attributes := attrs
def plain (name : String) (sup : Option ClassId) : Class where
  name := name
  kind := .ordinary
  loader := none
  accessFlags := 33
  super := sup
  interfaces := #[]
  cf := none
  fields := #[]
  methods := #[]
  instanceTypes := #[]
  staticTypes := #[]
  resolved := #[]
  callSites := []
  init := .initialized
  statics := none
  mirror := none

def pool0 : Array CpInfo := pool [(5, u "<init>"), (0, u "()V"), (1, .class_ 10), (1, u "java/lang/Object"), (85, u "clone"), (0, u "()Ljava/lang/Object;")] 26

def k0c0 : Code := { maxStack := 0, maxLocals := 1, code := object_method_1_code, exceptionTable := #[], attributes := #[] }
def k0m0 : Method := { name := "<init>", desc := "()V", sig := { parameters := [], returnType := none }, accessFlags := 1, code := some k0c0 }
def k0m1 : Method := { name := "clone", desc := "()Ljava/lang/Object;", sig := { parameters := [], returnType := some (.object "java/lang/Object") }, accessFlags := 260, code := none }
/-- java/lang/Object -/
def k0 : Class := { plain "java/lang/Object" none with
  accessFlags := 33
  interfaces := #[]
  cf := some (fileOf pool0 8 #[] #[{ accessFlags := 1, nameIndex := 5, descriptorIndex := 6, attributes := #[] }, { accessFlags := 260, nameIndex := 96, descriptorIndex := 97, attributes := #[] }] 33 0 #[] #[])
  fields := #[]
  methods := #[k0m0, k0m1]
  instanceTypes := #[]
  staticTypes := #[]
  resolved := Array.replicate 124 none
  statics := none }

def pool1 : Array CpInfo := pool [(2, .class_ 4), (1, u "java/lang/Object"), (0, u "<init>"), (0, u "()V"), (0, .methodref 8 9), (0, .class_ 10), (0, .nameAndType 11 12), (0, u "com/example/ledgerpost/ledgerpost/PayloadOfBytesPinLaw"), (0, u "at"), (0, u "(II)B"), (0, .integer 2147483647), (0, .methodref 15 16), (0, .class_ 17), (0, .nameAndType 18 19), (0, u "com/example/ledgerpost/ledgerpost/Payload"), (0, u "ofBytes"), (0, u "([B)Lcom/example/ledgerpost/ledgerpost/Payload;"), (0, .methodref 15 21), (0, .nameAndType 22 23), (0, u "isText"), (0, u "()Z"), (0, .methodref 15 25), (0, .nameAndType 26 27), (0, u "text"), (0, u "()Ljava/lang/String;"), (0, .methodref 15 29), (0, .nameAndType 30 31), (0, u "length"), (0, u "()J"), (0, .methodref 15 33), (0, .nameAndType 34 35), (0, u "bytes"), (0, u "()[B"), (0, .methodref 8 37), (0, .nameAndType 38 39), (0, u "holds"), (0, u "([BII)Z"), (0, .methodref 8 41), (0, .nameAndType 42 43), (0, u "flip"), (0, u "([BI)V"), (3, u "law"), (0, u "(II)Z")] 4

def k1m0 : Method := { name := "<init>", desc := "()V", sig := { parameters := [], returnType := none }, accessFlags := 2, code := none }
def k1c1 : Code := { maxStack := 3, maxLocals := 2, code := method_2_code, exceptionTable := #[], attributes := #[] }
def k1m1 : Method := { name := "at", desc := "(II)B", sig := { parameters := [.int, .int], returnType := some .byte }, accessFlags := 10, code := some k1c1 }
def k1c2 : Code := { maxStack := 3, maxLocals := 3, code := method_3_code, exceptionTable := #[], attributes := #[] }
def k1m2 : Method := { name := "holds", desc := "([BII)Z", sig := { parameters := [(.array .byte), .int, .int], returnType := some .boolean }, accessFlags := 10, code := some k1c2 }
def k1c3 : Code := { maxStack := 4, maxLocals := 2, code := method_4_code, exceptionTable := #[], attributes := #[] }
def k1m3 : Method := { name := "flip", desc := "([BI)V", sig := { parameters := [(.array .byte), .int], returnType := none }, accessFlags := 10, code := some k1c3 }
def k1c4 : Code := { maxStack := 4, maxLocals := 7, code := code, exceptionTable := #[], attributes := #[] }
def k1m4 : Method := { name := "law", desc := "(II)Z", sig := { parameters := [.int, .int], returnType := some .boolean }, accessFlags := 9, code := some k1c4 }
/-- com/example/ledgerpost/ledgerpost/PayloadOfBytesPinLaw -/
def k1 : Class := { plain "com/example/ledgerpost/ledgerpost/PayloadOfBytesPinLaw" (some 0) with
  accessFlags := 49
  interfaces := #[]
  cf := some (fileOf pool1 8 #[] #[{ accessFlags := 2, nameIndex := 5, descriptorIndex := 6, attributes := #[] }, { accessFlags := 10, nameIndex := 11, descriptorIndex := 12, attributes := #[] }, { accessFlags := 10, nameIndex := 38, descriptorIndex := 39, attributes := #[] }, { accessFlags := 10, nameIndex := 42, descriptorIndex := 43, attributes := #[] }, { accessFlags := 9, nameIndex := 47, descriptorIndex := 48, attributes := #[] }] 49 2 #[] #[])
  fields := #[]
  methods := #[k1m0, k1m1, k1m2, k1m3, k1m4]
  instanceTypes := #[]
  staticTypes := #[]
  resolved := Array.replicate 53 none
  statics := none }

def pool2 : Array CpInfo := pool [(1, .methodref 2 3), (0, .class_ 4), (0, .nameAndType 5 6), (0, u "java/lang/Object"), (0, u "<init>"), (0, u "()V"), (0, .fieldref 8 9), (0, .class_ 10), (0, .nameAndType 11 12), (0, u "com/example/ledgerpost/ledgerpost/Payload"), (0, u "text"), (0, u "Ljava/lang/String;"), (0, .fieldref 8 14), (0, .nameAndType 15 16), (0, u "bytes"), (0, u "[B"), (1, .methodref 19 20), (0, .class_ 21), (0, .nameAndType 22 23), (0, u "java/util/Objects"), (0, u "requireNonNull"), (0, u "(Ljava/lang/Object;Ljava/lang/String;)Ljava/lang/Object;"), (2, .methodref 8 27), (0, .nameAndType 5 28), (0, u "(Ljava/lang/String;[B)V"), (0, .string 15), (0, .class_ 16), (0, .methodref 30 32), (0, .nameAndType 33 34), (0, u "clone"), (0, u "()Ljava/lang/Object;"), (12, u "length"), (24, u "ofBytes"), (0, u "([B)Lcom/example/ledgerpost/ledgerpost/Payload;"), (0, u "isText"), (0, u "()Z"), (1, u "()Ljava/lang/String;"), (0, u "()[B"), (0, u "()J")] 19

def k2c0 : Code := { maxStack := 2, maxLocals := 3, code := prog_22_method_1_code, exceptionTable := #[], attributes := #[] }
def k2m0 : Method := { name := "<init>", desc := "(Ljava/lang/String;[B)V", sig := { parameters := [(.object "java/lang/String"), (.array .byte)], returnType := none }, accessFlags := 2, code := some k2c0 }
def k2c1 : Code := { maxStack := 5, maxLocals := 1, code := prog_22_method_3_code, exceptionTable := #[], attributes := #[] }
def k2m1 : Method := { name := "ofBytes", desc := "([B)Lcom/example/ledgerpost/ledgerpost/Payload;", sig := { parameters := [(.array .byte)], returnType := some (.object "com/example/ledgerpost/ledgerpost/Payload") }, accessFlags := 9, code := some k2c1 }
def k2c2 : Code := { maxStack := 1, maxLocals := 1, code := prog_22_method_4_code, exceptionTable := #[], attributes := #[] }
def k2m2 : Method := { name := "isText", desc := "()Z", sig := { parameters := [], returnType := some .boolean }, accessFlags := 1, code := some k2c2 }
def k2c3 : Code := { maxStack := 1, maxLocals := 1, code := prog_22_method_5_code, exceptionTable := #[], attributes := #[] }
def k2m3 : Method := { name := "text", desc := "()Ljava/lang/String;", sig := { parameters := [], returnType := some (.object "java/lang/String") }, accessFlags := 1, code := some k2c3 }
def k2c4 : Code := { maxStack := 2, maxLocals := 1, code := prog_22_method_6_code, exceptionTable := #[], attributes := #[] }
def k2m4 : Method := { name := "bytes", desc := "()[B", sig := { parameters := [], returnType := some (.array .byte) }, accessFlags := 1, code := some k2c4 }
def k2c5 : Code := { maxStack := 2, maxLocals := 1, code := prog_22_method_7_code, exceptionTable := #[], attributes := #[] }
def k2m5 : Method := { name := "length", desc := "()J", sig := { parameters := [], returnType := some .long }, accessFlags := 0, code := some k2c5 }
/-- com/example/ledgerpost/ledgerpost/Payload -/
def k2 : Class := { plain "com/example/ledgerpost/ledgerpost/Payload" (some 0) with
  accessFlags := 49
  interfaces := #[]
  cf := some (fileOf pool2 8 #[] #[{ accessFlags := 2, nameIndex := 5, descriptorIndex := 28, attributes := #[] }, { accessFlags := 9, nameIndex := 72, descriptorIndex := 73, attributes := #[] }, { accessFlags := 1, nameIndex := 74, descriptorIndex := 75, attributes := #[] }, { accessFlags := 1, nameIndex := 11, descriptorIndex := 77, attributes := #[] }, { accessFlags := 1, nameIndex := 15, descriptorIndex := 78, attributes := #[] }, { accessFlags := 0, nameIndex := 47, descriptorIndex := 79, attributes := #[] }] 49 2 #[] #[{ accessFlags := 18, nameIndex := 11, descriptorIndex := 12, attributes := #[] }, { accessFlags := 18, nameIndex := 15, descriptorIndex := 16, attributes := #[] }])
  fields := #[{ name := "text", type := (.object "java/lang/String"), accessFlags := 18, slot := 0, constantValue := 0 }, { name := "bytes", type := (.array .byte), accessFlags := 18, slot := 1, constantValue := 0 }]
  methods := #[k2m0, k2m1, k2m2, k2m3, k2m4, k2m5]
  instanceTypes := #[(.object "java/lang/String"), (.array .byte)]
  staticTypes := #[]
  resolved := Array.replicate 99 none
  statics := none }

def pool3 : Array CpInfo := pool [(1, .class_ 2), (0, u "java/io/Serializable"), (0, .class_ 4), (0, u "java/lang/Object")] 2

/-- java/io/Serializable -/
def k3 : Class := { plain "java/io/Serializable" (some 0) with
  accessFlags := 1537
  interfaces := #[]
  cf := some (fileOf pool3 1 #[] #[] 1537 3 #[] #[])
  fields := #[]
  methods := #[]
  instanceTypes := #[]
  staticTypes := #[]
  resolved := Array.replicate 7 none
  statics := none }

def pool4 : Array CpInfo := pool [(1, .class_ 2), (0, u "java/lang/Comparable"), (0, .class_ 4), (0, u "java/lang/Object")] 7

/-- java/lang/Comparable -/
def k4 : Class := { plain "java/lang/Comparable" (some 0) with
  accessFlags := 1537
  interfaces := #[]
  cf := some (fileOf pool4 1 #[] #[] 1537 3 #[] #[])
  fields := #[]
  methods := #[]
  instanceTypes := #[]
  staticTypes := #[]
  resolved := Array.replicate 12 none
  statics := none }

def pool5 : Array CpInfo := pool [(2, .class_ 4), (1, u "java/lang/CharSequence"), (42, .class_ 48), (0, u "java/lang/CharSequence$1CodePointIterator"), (10, .class_ 60), (0, u "java/lang/CharSequence$1CharIterator"), (5, .class_ 67), (0, u "java/lang/Object")] 63

/-- java/lang/CharSequence -/
def k5 : Class := { plain "java/lang/CharSequence" (some 0) with
  accessFlags := 1537
  interfaces := #[]
  cf := some (fileOf pool5 2 #[.nestMembers #[47, 59]] #[] 1537 66 #[] #[])
  fields := #[]
  methods := #[]
  instanceTypes := #[]
  staticTypes := #[]
  resolved := Array.replicate 131 none
  statics := none }

def pool6 : Array CpInfo := pool [(1, .class_ 2), (0, u "java/lang/constant/Constable"), (0, .class_ 4), (0, u "java/lang/Object")] 6

/-- java/lang/constant/Constable -/
def k6 : Class := { plain "java/lang/constant/Constable" (some 0) with
  accessFlags := 1537
  interfaces := #[]
  cf := some (fileOf pool6 1 #[] #[] 1537 3 #[] #[])
  fields := #[]
  methods := #[]
  instanceTypes := #[]
  staticTypes := #[]
  resolved := Array.replicate 11 none
  statics := none }

def pool7 : Array CpInfo := pool [(1, .class_ 2), (0, u "java/lang/constant/ConstantDesc"), (0, .class_ 4), (0, u "java/lang/Object")] 32

/-- java/lang/constant/ConstantDesc -/
def k7 : Class := { plain "java/lang/constant/ConstantDesc" (some 0) with
  accessFlags := 1537
  interfaces := #[]
  cf := some (fileOf pool7 1 #[] #[] 1537 3 #[] #[])
  fields := #[]
  methods := #[]
  instanceTypes := #[]
  staticTypes := #[]
  resolved := Array.replicate 37 none
  statics := none }

def pool8 : Array CpInfo := pool [(2, .class_ 4), (1, u "java/lang/Object"), (0, u "<init>"), (0, u "()V"), (3, .class_ 12), (1, u "java/lang/String"), (0, u "value"), (0, u "[B"), (2, u "coder"), (0, u "B"), (2, u "hash"), (0, u "I"), (2, u "hashIsZero"), (0, u "Z"), (13, u "COMPACT_STRINGS"), (534, .class_ 576), (0, u "java/lang/CharSequence"), (22, u "CASE_INSENSITIVE_ORDER"), (0, u "Ljava/util/Comparator;"), (500, u "serialPersistentFields"), (0, u "[Ljava/io/ObjectStreamField;"), (0, .class_ 1104), (0, u "java/lang/String$CaseInsensitiveComparator"), (1, .class_ 1107), (0, u "java/io/Serializable"), (0, .class_ 1109), (0, u "java/lang/Comparable"), (0, .class_ 1111), (0, u "java/lang/constant/Constable"), (0, .class_ 1113), (0, u "java/lang/constant/ConstantDesc"), (2, u "serialVersionUID"), (0, u "J"), (3, u "REPL"), (0, u "C"), (2, u "LATIN1"), (1, u "UTF16")] 323

def k8m0 : Method := { name := "<init>", desc := "()V", sig := { parameters := [], returnType := none }, accessFlags := 1, code := none }
/-- java/lang/String -/
def k8 : Class := { plain "java/lang/String" (some 0) with
  accessFlags := 49
  interfaces := #[3, 4, 5, 6, 7]
  cf := some (fileOf pool8 10 #[.nestMembers #[1103]] #[{ accessFlags := 1, nameIndex := 5, descriptorIndex := 6, attributes := #[] }] 49 2 #[1106, 1108, 575, 1110, 1112] #[{ accessFlags := 18, nameIndex := 13, descriptorIndex := 14, attributes := #[] }, { accessFlags := 18, nameIndex := 17, descriptorIndex := 18, attributes := #[] }, { accessFlags := 2, nameIndex := 21, descriptorIndex := 22, attributes := #[] }, { accessFlags := 2, nameIndex := 25, descriptorIndex := 26, attributes := #[] }, { accessFlags := 26, nameIndex := 1116, descriptorIndex := 1117, attributes := #[] }, { accessFlags := 24, nameIndex := 40, descriptorIndex := 26, attributes := #[] }, { accessFlags := 26, nameIndex := 1101, descriptorIndex := 1102, attributes := #[] }, { accessFlags := 26, nameIndex := 1121, descriptorIndex := 1122, attributes := #[] }, { accessFlags := 25, nameIndex := 599, descriptorIndex := 600, attributes := #[] }, { accessFlags := 24, nameIndex := 1125, descriptorIndex := 18, attributes := #[] }, { accessFlags := 24, nameIndex := 1127, descriptorIndex := 18, attributes := #[] }])
  fields := #[{ name := "value", type := (.array .byte), accessFlags := 18, slot := 0, constantValue := 0 }, { name := "coder", type := .byte, accessFlags := 18, slot := 1, constantValue := 0 }, { name := "hash", type := .int, accessFlags := 2, slot := 2, constantValue := 0 }, { name := "hashIsZero", type := .boolean, accessFlags := 2, slot := 3, constantValue := 0 }, { name := "serialVersionUID", type := .long, accessFlags := 26, slot := 0, constantValue := 0 }, { name := "COMPACT_STRINGS", type := .boolean, accessFlags := 24, slot := 1, constantValue := 0 }, { name := "serialPersistentFields", type := (.array (.object "java/io/ObjectStreamField")), accessFlags := 26, slot := 2, constantValue := 0 }, { name := "REPL", type := .char, accessFlags := 26, slot := 3, constantValue := 0 }, { name := "CASE_INSENSITIVE_ORDER", type := (.object "java/util/Comparator"), accessFlags := 25, slot := 4, constantValue := 0 }, { name := "LATIN1", type := .byte, accessFlags := 24, slot := 5, constantValue := 0 }, { name := "UTF16", type := .byte, accessFlags := 24, slot := 6, constantValue := 0 }]
  methods := #[k8m0]
  instanceTypes := #[(.array .byte), .byte, .int, .boolean]
  staticTypes := #[.long, .boolean, (.array (.object "java/io/ObjectStreamField")), .char, (.object "java/util/Comparator"), .byte, .byte]
  resolved := Array.replicate 1451 none
  statics := none }

def pool9 : Array CpInfo := pool [(2, .class_ 4), (1, u "java/lang/Object"), (0, u "<init>"), (0, u "()V"), (35, .class_ 44), (1, u "java/util/Objects"), (0, u "requireNonNull"), (48, u "(Ljava/lang/Object;Ljava/lang/String;)Ljava/lang/Object;")] 89

def k9m0 : Method := { name := "<init>", desc := "()V", sig := { parameters := [], returnType := none }, accessFlags := 2, code := none }
def k9c1 : Code := { maxStack := 3, maxLocals := 2, code := jdk_31_method_11_code, exceptionTable := #[], attributes := #[] }
def k9m1 : Method := { name := "requireNonNull", desc := "(Ljava/lang/Object;Ljava/lang/String;)Ljava/lang/Object;", sig := { parameters := [(.object "java/lang/Object"), (.object "java/lang/String")], returnType := some (.object "java/lang/Object") }, accessFlags := 9, code := some k9c1 }
/-- java/util/Objects -/
def k9 : Class := { plain "java/util/Objects" (some 0) with
  accessFlags := 49
  interfaces := #[]
  cf := some (fileOf pool9 42 #[] #[{ accessFlags := 2, nameIndex := 5, descriptorIndex := 6, attributes := #[] }, { accessFlags := 9, nameIndex := 45, descriptorIndex := 94, attributes := #[] }] 49 2 #[] #[])
  fields := #[]
  methods := #[k9m0, k9m1]
  instanceTypes := #[]
  staticTypes := #[]
  resolved := Array.replicate 184 none
  statics := none }

def pool10 : Array CpInfo := pool [(1, .class_ 2), (0, u "java/lang/Cloneable"), (0, .class_ 4), (0, u "java/lang/Object")] 2

/-- java/lang/Cloneable -/
def k10 : Class := { plain "java/lang/Cloneable" (some 0) with
  accessFlags := 1537
  interfaces := #[]
  cf := some (fileOf pool10 1 #[] #[] 1537 3 #[] #[])
  fields := #[]
  methods := #[]
  instanceTypes := #[]
  staticTypes := #[]
  resolved := Array.replicate 7 none
  statics := none }

/-- the primitive byte -/
def k11 : Class := { plain "byte" none with kind := .primitive 'B', accessFlags := 0x411 }
/-- [B -/
def k12 : Class := { plain "[B" (some 0) with kind := .array 11 .byte, interfaces := #[10, 3], accessFlags := 1041 }

/-- the primitive int -/
def k13 : Class := { plain "int" none with kind := .primitive 'I', accessFlags := 0x411 }
/-- [I -/
def k14 : Class := { plain "[I" (some 0) with kind := .array 13 .int, interfaces := #[10, 3], accessFlags := 1041 }

def heap : Heap := #[]
def classes : Array Class := #[k0, k1, k2, k3, k4, k5, k6, k7, k8, k9, k10, k11, k12, k13, k14]
def interned : List (Array UInt16 × Addr) := []
def slotsUsed : Nat := 0
def theMethod : MethodId := ⟨1, 4⟩
def args0 : Array Value := #[.int 3, .int 5]
def aboutOver (below : List Frame) : State where
  vm := { classes := classes, interned := interned.toArray }
  heap := heap
  slotsUsed := slotsUsed
  threads := #[{ frames := .invoking theMethod args0 :: below }]
def below0 : List Frame := [.native { method := ⟨0, 0⟩, args := #[] }]
def about1 : State := aboutOver below0
def p0 : Program := .bare "" "" ""
def e0 : Env := launch0.env 0 0 0
theorem w_frames : about1.frames = Frame.invoking theMethod args0 :: below0 := rfl
set_option maxRecDepth 65536 in
theorem w_args : argsFit about1.vm theMethod args0 = true := by decide +kernel
set_option maxRecDepth 65536 in
theorem w_heap : heapFits about1 = true := by decide +kernel
set_option maxRecDepth 65536 in
theorem w_runnable : about1.curStatus? = some .runnable := by decide +kernel
set_option maxRecDepth 65536 in
theorem w_alone : about1.alone = true := by decide +kernel
set_option maxRecDepth 65536 in
theorem w_named : about1.methodNamed? x = some theMethod := by decide +kernel
set_option maxRecDepth 65536 in
theorem w_hears : about1.hears theMethod below0 = true := by decide +kernel
set_option maxRecDepth 65536 in
theorem w_ripe : about1.ripe theMethod args0 below0 = true := by decide +kernel
theorem w_running : about1.status = .running := rfl
set_option maxRecDepth 65536 in
theorem w_room : about1.hasRoom e0.platform room_1 = true :=
  launch0.hasRoom_least _ room_1 (by decide +kernel) (by decide +kernel) (by decide +kernel) (by decide +kernel) (by decide +kernel) (by decide +kernel)
theorem allAtoms_all (ts : List Jvm.Cond) (a : Array Jvm.Value) (st : Jvm.State) : (allAtoms ts).before a st = ts.all (fun c => c.before a st) := by
  induction ts with
  | nil => rfl
  | cons c t ih =>
    show (Jvm.Cond.and c (allAtoms t)).before a st = _
    rw [Jvm.Cond.before_and, ih, List.all_cons]
def words1 : List Jvm.Cond := Jvm.Cond.code x code maxLocals ret :: tables_1
/-- a 'code' word, met by the world's own term for the bytes: nothing is compared byte by byte -/
theorem code_word {y : MethodName} {bytes : ByteArray} {mx : Nat} {rt : Option FieldType} {a : Array Value} {s : State} {m : MethodId} {meth : Method} {c : Code} (h1 : s.methodNamed? y = some m) (h2 : s.vm.method? m = some meth) (h3 : meth.code = some c) (h4 : c.code = bytes)
    (h5 : (c.maxLocals == mx && c.exceptionTable.isEmpty && decide (c.maxStack ≤ mostOperands) && decide (meth.sig.returnType = rt) && !meth.locks && decide (parseMethodDescriptor y.desc = some meth.sig)) = true) : (Jvm.Cond.code y bytes mx rt).before a s = true := by
  simp only [Bool.and_eq_true, beq_iff_eq, Bool.not_eq_true', decide_eq_true_eq] at h5
  obtain ⟨⟨⟨⟨⟨g1, g2⟩, g3⟩, g4⟩, g5⟩, g6⟩ := h5
  simp [Cond.before, Cond.holds, Cond.value, h1, h2, h3, h4, g1, g2, g3, g4, g5, g6]
def isCode : Jvm.Cond → Bool
  | .code _ _ _ _ => true
  | _ => false
theorem all_split {L : List Jvm.Cond} {P : Jvm.Cond → Bool} (h1 : L.all (fun c => isCode c || P c) = true) (h2 : ∀ c ∈ L.filter isCode, P c = true) : L.all P = true := by
  refine List.all_eq_true.mpr fun c hc => ?_
  have h := List.all_eq_true.mp h1 c hc
  rcases Bool.eq_false_or_eq_true (isCode c) with hi | hi
  · exact h2 c (List.mem_filter.mpr ⟨hc, hi⟩)
  · simpa [hi] using h
set_option maxRecDepth 65536 in
theorem w_c0 : (Jvm.Cond.code x code maxLocals ret).before args0 about1 = true := code_word (m := ⟨1, 4⟩) (meth := k1m4) (c := k1c4) (by decide +kernel) rfl rfl rfl (by decide +kernel)
set_option maxRecDepth 65536 in
theorem w_c1 : (Jvm.Cond.code ({ cls := "com/example/ledgerpost/ledgerpost/Payload", name := "ofBytes", desc := "([B)Lcom/example/ledgerpost/ledgerpost/Payload;" } : Jvm.MethodName) prog_22_method_3_code (1 : Nat) (Option.some (Jvm.ClassFile.FieldType.object "com/example/ledgerpost/ledgerpost/Payload"))).before args0 about1 = true := code_word (m := ⟨2, 1⟩) (meth := k2m1) (c := k2c1) (by decide +kernel) rfl rfl rfl (by decide +kernel)
set_option maxRecDepth 65536 in
theorem w_c2 : (Jvm.Cond.code ({ cls := "java/util/Objects", name := "requireNonNull", desc := "(Ljava/lang/Object;Ljava/lang/String;)Ljava/lang/Object;" } : Jvm.MethodName) jdk_31_method_11_code (2 : Nat) (Option.some (Jvm.ClassFile.FieldType.object "java/lang/Object"))).before args0 about1 = true := code_word (m := ⟨9, 1⟩) (meth := k9m1) (c := k9c1) (by decide +kernel) rfl rfl rfl (by decide +kernel)
set_option maxRecDepth 65536 in
theorem w_c3 : (Jvm.Cond.code ({ cls := "com/example/ledgerpost/ledgerpost/Payload", name := "<init>", desc := "(Ljava/lang/String;[B)V" } : Jvm.MethodName) prog_22_method_1_code (3 : Nat) (Option.none : Option Jvm.ClassFile.FieldType)).before args0 about1 = true := code_word (m := ⟨2, 0⟩) (meth := k2m0) (c := k2c0) (by decide +kernel) rfl rfl rfl (by decide +kernel)
set_option maxRecDepth 65536 in
theorem w_c4 : (Jvm.Cond.code ({ cls := "java/lang/Object", name := "<init>", desc := "()V" } : Jvm.MethodName) object_method_1_code (1 : Nat) (Option.none : Option Jvm.ClassFile.FieldType)).before args0 about1 = true := code_word (m := ⟨0, 0⟩) (meth := k0m0) (c := k0c0) (by decide +kernel) rfl rfl rfl (by decide +kernel)
set_option maxRecDepth 65536 in
theorem w_c5 : (Jvm.Cond.code ({ cls := "com/example/ledgerpost/ledgerpost/Payload", name := "isText", desc := "()Z" } : Jvm.MethodName) prog_22_method_4_code (1 : Nat) (Option.some Jvm.ClassFile.FieldType.boolean)).before args0 about1 = true := code_word (m := ⟨2, 2⟩) (meth := k2m2) (c := k2c2) (by decide +kernel) rfl rfl rfl (by decide +kernel)
set_option maxRecDepth 65536 in
theorem w_c6 : (Jvm.Cond.code ({ cls := "com/example/ledgerpost/ledgerpost/Payload", name := "text", desc := "()Ljava/lang/String;" } : Jvm.MethodName) prog_22_method_5_code (1 : Nat) (Option.some (Jvm.ClassFile.FieldType.object "java/lang/String"))).before args0 about1 = true := code_word (m := ⟨2, 3⟩) (meth := k2m3) (c := k2c3) (by decide +kernel) rfl rfl rfl (by decide +kernel)
set_option maxRecDepth 65536 in
theorem w_c7 : (Jvm.Cond.code ({ cls := "com/example/ledgerpost/ledgerpost/Payload", name := "length", desc := "()J" } : Jvm.MethodName) prog_22_method_7_code (1 : Nat) (Option.some Jvm.ClassFile.FieldType.long)).before args0 about1 = true := code_word (m := ⟨2, 5⟩) (meth := k2m5) (c := k2c5) (by decide +kernel) rfl rfl rfl (by decide +kernel)
set_option maxRecDepth 65536 in
theorem w_c8 : (Jvm.Cond.code ({ cls := "com/example/ledgerpost/ledgerpost/Payload", name := "bytes", desc := "()[B" } : Jvm.MethodName) prog_22_method_6_code (1 : Nat) (Option.some (Jvm.ClassFile.FieldType.array Jvm.ClassFile.FieldType.byte))).before args0 about1 = true := code_word (m := ⟨2, 4⟩) (meth := k2m4) (c := k2c4) (by decide +kernel) rfl rfl rfl (by decide +kernel)
set_option maxRecDepth 65536 in
theorem w_c9 : (Jvm.Cond.code ({ cls := "com/example/ledgerpost/ledgerpost/PayloadOfBytesPinLaw", name := "holds", desc := "([BII)Z" } : Jvm.MethodName) method_3_code (3 : Nat) (Option.some Jvm.ClassFile.FieldType.boolean)).before args0 about1 = true := code_word (m := ⟨1, 2⟩) (meth := k1m2) (c := k1c2) (by decide +kernel) rfl rfl rfl (by decide +kernel)
set_option maxRecDepth 65536 in
theorem w_c10 : (Jvm.Cond.code ({ cls := "com/example/ledgerpost/ledgerpost/PayloadOfBytesPinLaw", name := "flip", desc := "([BI)V" } : Jvm.MethodName) method_4_code (2 : Nat) (Option.none : Option Jvm.ClassFile.FieldType)).before args0 about1 = true := code_word (m := ⟨1, 3⟩) (meth := k1m3) (c := k1c3) (by decide +kernel) rfl rfl rfl (by decide +kernel)
set_option maxRecDepth 65536 in
theorem w_c11 : (Jvm.Cond.code ({ cls := "com/example/ledgerpost/ledgerpost/PayloadOfBytesPinLaw", name := "at", desc := "(II)B" } : Jvm.MethodName) method_2_code (2 : Nat) (Option.some Jvm.ClassFile.FieldType.byte)).before args0 about1 = true := code_word (m := ⟨1, 1⟩) (meth := k1m1) (c := k1c1) (by decide +kernel) rfl rfl rfl (by decide +kernel)
def codes1 : List Jvm.Cond := [Jvm.Cond.code x code maxLocals ret, Jvm.Cond.code ({ cls := "com/example/ledgerpost/ledgerpost/Payload", name := "ofBytes", desc := "([B)Lcom/example/ledgerpost/ledgerpost/Payload;" } : Jvm.MethodName) prog_22_method_3_code (1 : Nat) (Option.some (Jvm.ClassFile.FieldType.object "com/example/ledgerpost/ledgerpost/Payload")), Jvm.Cond.code ({ cls := "java/util/Objects", name := "requireNonNull", desc := "(Ljava/lang/Object;Ljava/lang/String;)Ljava/lang/Object;" } : Jvm.MethodName) jdk_31_method_11_code (2 : Nat) (Option.some (Jvm.ClassFile.FieldType.object "java/lang/Object")), Jvm.Cond.code ({ cls := "com/example/ledgerpost/ledgerpost/Payload", name := "<init>", desc := "(Ljava/lang/String;[B)V" } : Jvm.MethodName) prog_22_method_1_code (3 : Nat) (Option.none : Option Jvm.ClassFile.FieldType), Jvm.Cond.code ({ cls := "java/lang/Object", name := "<init>", desc := "()V" } : Jvm.MethodName) object_method_1_code (1 : Nat) (Option.none : Option Jvm.ClassFile.FieldType), Jvm.Cond.code ({ cls := "com/example/ledgerpost/ledgerpost/Payload", name := "isText", desc := "()Z" } : Jvm.MethodName) prog_22_method_4_code (1 : Nat) (Option.some Jvm.ClassFile.FieldType.boolean), Jvm.Cond.code ({ cls := "com/example/ledgerpost/ledgerpost/Payload", name := "text", desc := "()Ljava/lang/String;" } : Jvm.MethodName) prog_22_method_5_code (1 : Nat) (Option.some (Jvm.ClassFile.FieldType.object "java/lang/String")), Jvm.Cond.code ({ cls := "com/example/ledgerpost/ledgerpost/Payload", name := "length", desc := "()J" } : Jvm.MethodName) prog_22_method_7_code (1 : Nat) (Option.some Jvm.ClassFile.FieldType.long), Jvm.Cond.code ({ cls := "com/example/ledgerpost/ledgerpost/Payload", name := "bytes", desc := "()[B" } : Jvm.MethodName) prog_22_method_6_code (1 : Nat) (Option.some (Jvm.ClassFile.FieldType.array Jvm.ClassFile.FieldType.byte)), Jvm.Cond.code ({ cls := "com/example/ledgerpost/ledgerpost/PayloadOfBytesPinLaw", name := "holds", desc := "([BII)Z" } : Jvm.MethodName) method_3_code (3 : Nat) (Option.some Jvm.ClassFile.FieldType.boolean), Jvm.Cond.code ({ cls := "com/example/ledgerpost/ledgerpost/PayloadOfBytesPinLaw", name := "flip", desc := "([BI)V" } : Jvm.MethodName) method_4_code (2 : Nat) (Option.none : Option Jvm.ClassFile.FieldType), Jvm.Cond.code ({ cls := "com/example/ledgerpost/ledgerpost/PayloadOfBytesPinLaw", name := "at", desc := "(II)B" } : Jvm.MethodName) method_2_code (2 : Nat) (Option.some Jvm.ClassFile.FieldType.byte)]
set_option maxRecDepth 65536 in
theorem codes_eq : words1.filter isCode = codes1 := rfl
theorem w_codes : ∀ c ∈ words1.filter isCode, c.before args0 about1 = true := by
  rw [codes_eq]
  intro c hc
  simp only [codes1, List.mem_cons, List.not_mem_nil, or_false] at hc
  rcases hc with rfl | rfl | rfl | rfl | rfl | rfl | rfl | rfl | rfl | rfl | rfl | rfl
  · exact w_c0
  · exact w_c1
  · exact w_c2
  · exact w_c3
  · exact w_c4
  · exact w_c5
  · exact w_c6
  · exact w_c7
  · exact w_c8
  · exact w_c9
  · exact w_c10
  · exact w_c11
set_option maxRecDepth 65536 in
theorem w_t1 : (words1.take 24).all (fun c => isCode c || c.before args0 about1) = true := by decide +kernel
set_option maxRecDepth 65536 in
theorem w_t2 : ((words1.drop 24).take 24).all (fun c => isCode c || c.before args0 about1) = true := by decide +kernel
set_option maxRecDepth 65536 in
theorem w_t3 : ((words1.drop 24).drop 24).all (fun c => isCode c || c.before args0 about1) = true := by decide +kernel
theorem w_tables : (allAtoms (Jvm.Cond.code x code maxLocals ret :: tables_1)).before args0 about1 = true := by
  rw [allAtoms_all]
  show words1.all (fun c => c.before args0 about1) = true
  refine all_split ?_ w_codes
  rw [← List.take_append_drop 24 words1, List.all_append, w_t1, ← List.take_append_drop 24 (words1.drop 24), List.all_append, w_t2, w_t3]
  rfl
set_option maxRecDepth 65536 in
theorem w_case : (Jvm.Cond.and given_1 narrow_1).before args0 about1 = true := by decide +kernel
theorem w_applies : (headSpec (Jvm.Cond.code x code maxLocals ret :: tables_1) room_1).applies x e0.platform about1 = true :=
  (Spec.applies_iff w_frames).mpr ⟨w_running, w_runnable, w_alone, w_named, w_hears, w_ripe, w_room, w_tables⟩
theorem atStart : AtStart classFile x code maxLocals ret World_1 tables_1 room_1 Calls_1 rest_1 Pre_1 launch0 p0 e0 about1 theMethod args0 below0 :=
  ⟨lists_1, trivial, launch0.admits_env _ _ _, launch0.least_env, fairChoices_fair.cas, fairChoices_fair.clock, w_frames, w_args, w_heap, w_applies, trivial, trivial, w_case⟩
end start1
theorem witness_1 : WitnessClaimed_1 := ⟨start1.p0, start1.e0, start1.about1, start1.theMethod, start1.args0, start1.below0, start1.atStart⟩
end Jvm.Pilot.@@N@@
