import JvmDerived
import JvmDerived.Pilot.@@N@@Statement
import JvmDerived.Pilot.@@N@@Code
set_option linter.unusedVariables false
set_option linter.unusedSimpArgs false
namespace Jvm.RoadKit
open Sem ClassFile Op Lib Jvm.Stand Jvm.Free Jvm.LawKit
section New
variable {p : Program} {l : Launch} {e : Env} {R : Room} {s : State} {m : MethodId} {args : Array Value} {below : List Frame} {meth : Method} {c : Code} {T : State} {locs : List Loc} {cells slots : Nat}
theorem retI (X : Stand p l e R s m args below meth c T locs cells slots) (hx : p.tables.exec = Jvm.exec) {pc : Nat} {Ls : Array Slot} {z : Int32} {rest : List Value} (hret : meth.sig.returnType = some .int) (hd : decode c.code pc = .ok (.ireturn, 1)) {fs : List Frame}
    (hl : ∀ (f : JFrame) (acts : List Action), f.method = m → f.locked = none → f.entered = [] → (doReturn e (T.setTop f) acts (some (.int z))).1 = T.setFrames fs) : Steps p.tables e below (T.setTop (mkF m pc Ls (.int z :: rest))) (T.setFrames fs) := by
  have hm' : T.vm.method? m = some meth := X.method'
  have hn : narrow .int (.int z) = .int z := rfl
  show Steps p.tables e below (T.setTop { method := m, pc := pc, locals := Ls, stack := _ :: rest, locked := none }) _
  jvm_step X.here [X.here.top, hx, hd, hm', hret, hn]
  first | (intro acts; rw [hl _ acts rfl rfl rfl]) | rw [hl _ _ rfl rfl rfl]
  exact Steps.refl _
theorem retJ (X : Stand p l e R s m args below meth c T locs cells slots) (hx : p.tables.exec = Jvm.exec) {pc : Nat} {Ls : Array Slot} {z : Int64} {rest : List Value} (hret : meth.sig.returnType = some .long) (hd : decode c.code pc = .ok (.lreturn, 1)) {fs : List Frame}
    (hl : ∀ (f : JFrame) (acts : List Action), f.method = m → f.locked = none → f.entered = [] → (doReturn e (T.setTop f) acts (some (.long z))).1 = T.setFrames fs) : Steps p.tables e below (T.setTop (mkF m pc Ls (.long z :: rest))) (T.setFrames fs) := by
  have hm' : T.vm.method? m = some meth := X.method'
  have hn : narrow .long (.long z) = .long z := rfl
  show Steps p.tables e below (T.setTop { method := m, pc := pc, locals := Ls, stack := _ :: rest, locked := none }) _
  jvm_step X.here [X.here.top, hx, hd, hm', hret, hn]
  first | (intro acts; rw [hl _ acts rfl rfl rfl]) | rw [hl _ _ rfl rfl rfl]
  exact Steps.refl _
end New
end Jvm.RoadKit
/- laws to paste: Road.backV, Road.eqW, Road.codOf (cut by pick.py; bodies as the Statement names them) -/
namespace Jvm.Pilot.@@N@@
namespace StrChars
open Jvm Sem ClassFile Op Lib Jvm.Stand Jvm.Free.XT Jvm.Free.ALB Jvm.Free.JM Jvm.Free
open Jvm.Lib.Cold (StaticIs)
/-- a char array whose places are chars -/
def Ch (a : Addr) (A : Cell) (U : State) : Prop := Arr .char a A U ∧ Typed .char A
theorem Ch.mv {a : Addr} {A : Cell} {U U' : State} (h : Ch a A U) (hal : U.vm.Alike U'.vm) (hh : U'.heap = U.heap) : Ch a A U' := ⟨h.1.mv hal hh, h.2⟩
theorem Ch.keep {a : Addr} {A : Cell} {U U' : State} (h : Ch a A U) (hal : U.vm.Alike U'.vm) (hk : U'.heap[a]? = some A) : Ch a A U' := ⟨h.1.keep hal hk, h.2⟩
/-- what place i of a char[]'s cell holds -/
def cv (A : Cell) (i : Nat) : Int32 := match A.slots[i]? with | some (.int x) => x | _ => 0
theorem Ch.get {a : Addr} {A : Cell} {U : State} (h : Ch a A U) {i : Nat} (hi : i < A.slots.size) : A.slots[i]? = some (.int (cv A i)) := by
  have e := Array.getElem?_eq_getElem hi
  have f := h.2 i _ e
  unfold cv; rw [e]
  generalize A.slots[i] = v at f
  cases v <;> simp [fits] at f ⊢
/-- the byte that i2b leaves of a char -/
def lo8 (x : Int32) : Int32 := x.toInt8.toInt32
theorem fits_lo8 (y : Int32) : fits .byte (.int (lo8 y)) = true := by
  have h1 := y.toInt8.le_toInt
  have h2 := y.toInt8.toInt_lt
  simp only [lo8, fits, Bool.and_eq_true, decide_eq_true_eq, Int32.le_iff_toInt_le, Int8.toInt_toInt32, show (-128 : Int32).toInt = -128 from by decide, show (127 : Int32).toInt = 127 from by decide]
  omega
/-- A' is A but that each place j of lo .. hi - 1 holds f j -/
def Laid (A A' : Cell) (lo hi : Nat) (f : Nat → Value) : Prop := A'.cls = A.cls ∧ A'.vm = A.vm ∧ A'.slots.size = A.slots.size ∧ ∀ i, A'.slots[i]? = if lo ≤ i ∧ i < hi then some (f i) else A.slots[i]?
theorem Laid.zero (A : Cell) (lo : Nat) (f : Nat → Value) : Laid A A lo (lo + 0) f := ⟨rfl, rfl, rfl, fun i => by rw [if_neg (by omega)]⟩
theorem Laid.step {A Ak : Cell} {lo k : Nat} {f : Nat → Value} {v : Value} (h : Laid A Ak lo k f) (hlo : lo ≤ k) (hk : k < Ak.slots.size) (hv : v = f k) : Laid A (Ak.setSlot k v) lo (k + 1) f := by
  refine ⟨h.1, h.2.1, by simpa [Cell.setSlot] using h.2.2.1, fun i => ?_⟩
  by_cases e : k = i
  · subst e; rw [Cell.slots_setSlot_self v hk, if_pos (by omega), hv]
  · rw [Cell.slots_setSlot_ne v e, h.2.2.2 i]
    by_cases q : lo ≤ i ∧ i < k
    · rw [if_pos q, if_pos (by omega)]
    · rw [if_neg q, if_neg (by omega)]
def U16 : String := "java/lang/StringUTF16"
namespace Cmp5
def yN : MethodName := ⟨"java/lang/StringUTF16", "compress", "([CI[BII)I"⟩
abbrev yB : ByteArray := jdk_52_method_21_code
theorem d0 : decode yB 0 = .ok (.iconst 0, 1) := by decide +kernel
theorem d1 : decode yB 1 = .ok (.istore 5, 2) := by decide +kernel
theorem d3 : decode yB 3 = .ok (.iload 5, 2) := by decide +kernel
theorem d5 : decode yB 5 = .ok (.iload 4, 2) := by decide +kernel
theorem d7 : decode yB 7 = .ok (.if_icmp (.ge) 37, 3) := by decide +kernel
theorem d10 : decode yB 10 = .ok (.aload_n 0, 1) := by decide +kernel
theorem d11 : decode yB 11 = .ok (.iload_n 1, 1) := by decide +kernel
theorem d12 : decode yB 12 = .ok (.caload, 1) := by decide +kernel
theorem d13 : decode yB 13 = .ok (.istore 6, 2) := by decide +kernel
theorem d15 : decode yB 15 = .ok (.iload 6, 2) := by decide +kernel
theorem d17 : decode yB 17 = .ok (.sipush 255, 3) := by decide +kernel
theorem d20 : decode yB 20 = .ok (.if_icmp (.le) 6, 3) := by decide +kernel
theorem d26 : decode yB 26 = .ok (.aload_n 2, 1) := by decide +kernel
theorem d27 : decode yB 27 = .ok (.iload_n 3, 1) := by decide +kernel
theorem d28 : decode yB 28 = .ok (.iload 6, 2) := by decide +kernel
theorem d30 : decode yB 30 = .ok (.i2b, 1) := by decide +kernel
theorem d31 : decode yB 31 = .ok (.bastore, 1) := by decide +kernel
theorem d32 : decode yB 32 = .ok (.iinc 1 1, 3) := by decide +kernel
theorem d35 : decode yB 35 = .ok (.iinc 3 1, 3) := by decide +kernel
theorem d38 : decode yB 38 = .ok (.iinc 5 1, 3) := by decide +kernel
theorem d41 : decode yB 41 = .ok (.goto (-38), 3) := by decide +kernel
theorem d44 : decode yB 44 = .ok (.iload 4, 2) := by decide +kernel
theorem d46 : decode yB 46 = .ok (.ireturn, 1) := by decide +kernel
def site : List Cond := []
def tab : Cond := tabOf yN yB 7 (some .int) site
def P (b : Addr) (A : Cell) (d : Addr) (B : Cell) (o q len : Nat) (args : Array Value) (s : State) : Prop := args = #[.ref b, .int (Int32.ofNat o), .ref d, .int (Int32.ofNat q), .int (Int32.ofNat len)] ∧ Ch b A s ∧ Arr .byte d B s ∧ b ≠ d ∧ o + len ≤ A.slots.size ∧ q + len ≤ B.slots.size ∧ ∀ i, i < len → ¬ 255 < cv A (o + i)
def E (b : Addr) (A : Cell) (d : Addr) (B : Cell) (o q len : Nat) (r : Option Value) (s u : State) : Prop := r = some (.int (Int32.ofNat len)) ∧ ∃ B', Put d B' s u ∧ Laid B B' q (q + len) (fun j => Value.int (lo8 (cv A (o + (j - q)))))
/-- no char of the range above 255: len; the places written hold each char's low byte -/
theorem law (l : Launch) (b : Addr) (A : Cell) (d : Addr) (B : Cell) (o q len : Nat) : Law l yN 5 5 0 0 yB 7 (some .int) site (P b A d B o q len) (E b A d B o q len) (copyLocs d q len) 0 0 := by
  refine Law.of_walk (plainFor_of_name (by decide +kernel)) (by decide +kernel) (by decide +kernel) (by decide) (fun _ _ h => by rw [h.1]; rfl) (fun _ U U' hal hh h => ⟨h.1, h.2.1.mv hal hh, h.2.2.1.mv hal hh, h.2.2.2⟩) (fun r U U' V V' h1 hal h2 h => ⟨h.1, h.2.elim fun B' q => ⟨B', q.1.mv h1 h2, q.2⟩⟩) ?_
  intro p e s m args below meth c s₁ X0 hexec hbytes hml hret hlk hnm hown hh0 W hP
  obtain ⟨rfl, hA, hB, hne, l1, l2, hp⟩ := hP
  have c1 : Steps p.tables e below (s₁.setTop (entryFrame m #[.ref b, .int (Int32.ofNat o), .ref d, .int (Int32.ofNat q), .int (Int32.ofNat len)] 7)) (s₁.setTop (mkF m 0 #[.val (.ref b), .val (.int (Int32.ofNat o)), .val (.ref d), .val (.int (Int32.ofNat q)), .val (.int (Int32.ofNat len)), .unset, .unset] [])) := entry rfl
  have hA0 := hA.1.mv X0.warmed.alike hh0
  have hB0 := hB.mv X0.warmed.alike hh0
  have a31 := hA.1.2.2.2
  have c2 : Steps p.tables e below (s₁.setTop (entryFrame m #[.ref b, .int (Int32.ofNat o), .ref d, .int (Int32.ofNat q), .int (Int32.ofNat len)] 7)) (s₁.setTop (mkF m 3 #[.val (.ref b), .val (.int (Int32.ofNat o)), .val (.ref d), .val (.int (Int32.ofNat q)), .val (.int (Int32.ofNat len)), .val (.int 0), .unset] [])) := c1.trans (by
    refine iconstV X0.here hexec rfl 0 (hb hbytes d0) (by decide) ?_
    refine XS.istore X0.here hexec rfl (hb hbytes d1) rfl rfl ?_
    exact Steps.refl _)
  have loop : ∀ (r i : Nat), i + r = len → ∀ (z : Slot), (z = .unset ∨ ∃ w, z = .val w ∧ w.category = 1) → ∀ (Tl : State) (Bk : Cell), Stand p l e { frames := 0, locals := 0, cells := 0, slots := 0 } s m #[.ref b, .int (Int32.ofNat o), .ref d, .int (Int32.ofNat q), .int (Int32.ofNat len)] below meth c Tl ([] ++ copyLocs d q i) 0 0 → Put d Bk s₁ Tl → Laid B Bk q (q + i) (fun j => Value.int (lo8 (cv A (o + (j - q))))) →
      Steps p.tables e below (s₁.setTop (entryFrame m #[.ref b, .int (Int32.ofNat o), .ref d, .int (Int32.ofNat q), .int (Int32.ofNat len)] 7)) (Tl.setTop (mkF m 3 #[.val (.ref b), .val (.int (Int32.ofNat (o + i))), .val (.ref d), .val (.int (Int32.ofNat (q + i))), .val (.int (Int32.ofNat len)), .val (.int (Int32.ofNat i)), z] [])) → ∃ (T' : State) (B' : Cell) (z' : Slot), Stand p l e { frames := 0, locals := 0, cells := 0, slots := 0 } s m #[.ref b, .int (Int32.ofNat o), .ref d, .int (Int32.ofNat q), .int (Int32.ofNat len)] below meth c T' ([] ++ copyLocs d q len) 0 0 ∧ Put d B' s₁ T' ∧ Laid B B' q (q + len) (fun j => Value.int (lo8 (cv A (o + (j - q))))) ∧
      Steps p.tables e below (s₁.setTop (entryFrame m #[.ref b, .int (Int32.ofNat o), .ref d, .int (Int32.ofNat q), .int (Int32.ofNat len)] 7)) (T'.setTop (mkF m 3 #[.val (.ref b), .val (.int (Int32.ofNat (o + len))), .val (.ref d), .val (.int (Int32.ofNat (q + len))), .val (.int (Int32.ofNat len)), .val (.int (Int32.ofNat len)), z'] [])) := by
    intro r
    induction r with
    | zero =>
      intro i hi z hz Tl Bk Xl pl fl cl
      have hil : i = len := by omega
      rw [hil] at Xl fl cl
      exact ⟨Tl, Bk, z, Xl, pl, fl, cl⟩
    | succ r ih =>
      intro i hi z hz Tl Bk Xl pl fl cl
      have all := X0.warmed.alike.symm.trans Xl.warmed.alike
      have hAl := hA0.keep all (pl.other hne hA0.1)
      have hBk := hB0.like all pl.1 fl.1 fl.2.1 fl.2.2.1
      have hlt : q + i < Bk.slots.size := by rw [fl.2.2.1]; omega
      have c3 : Steps p.tables e below (s₁.setTop (entryFrame m #[.ref b, .int (Int32.ofNat o), .ref d, .int (Int32.ofNat q), .int (Int32.ofNat len)] 7)) (Tl.setTop (mkF m 12 #[.val (.ref b), .val (.int (Int32.ofNat (o + i))), .val (.ref d), .val (.int (Int32.ofNat (q + i))), .val (.int (Int32.ofNat len)), .val (.int (Int32.ofNat i)), z] [.int (Int32.ofNat (o + i)), .ref b])) := cl.trans (by
        refine XS.iload Xl.here hexec rfl (hb hbytes d3) rfl ?_
        refine XS.iload Xl.here hexec rfl (hb hbytes d5) rfl ?_
        refine XS.icmpNo Xl.here hexec rfl (hb hbytes d7) rfl (ii_ge_f (lt32 (by omega) (by omega))) ?_
        refine XS.aloadN Xl.here hexec rfl (hb hbytes d10) rfl rfl ?_
        refine XS.iloadN Xl.here hexec rfl (hb hbytes d11) rfl ?_
        exact Steps.refl _)
      have c4 : Steps p.tables e below (s₁.setTop (entryFrame m #[.ref b, .int (Int32.ofNat o), .ref d, .int (Int32.ofNat q), .int (Int32.ofNat len)] 7)) (Tl.setTop (mkF m 13 #[.val (.ref b), .val (.int (Int32.ofNat (o + i))), .val (.ref d), .val (.int (Int32.ofNat (q + i))), .val (.int (Int32.ofNat len)), .val (.int (Int32.ofNat i)), z] [.int (cv A (o + i))])) := c3.trans (by
        refine Xl.aget hexec hAl rfl (hA.get (i := o + i) (by omega)) rfl rfl (hb hbytes d12) ?_
        exact Steps.refl _)
      have c5 : Steps p.tables e below (s₁.setTop (entryFrame m #[.ref b, .int (Int32.ofNat o), .ref d, .int (Int32.ofNat q), .int (Int32.ofNat len)] 7)) (Tl.setTop (mkF m 15 #[.val (.ref b), .val (.int (Int32.ofNat (o + i))), .val (.ref d), .val (.int (Int32.ofNat (q + i))), .val (.int (Int32.ofNat len)), .val (.int (Int32.ofNat i)), .val (.int (cv A (o + i)))] [])) := c4.trans (by
        refine XS.istoreS Xl.here hexec rfl (hb hbytes d13) rfl rfl hz ?_
        exact Steps.refl _)
      have c6 : Steps p.tables e below (s₁.setTop (entryFrame m #[.ref b, .int (Int32.ofNat o), .ref d, .int (Int32.ofNat q), .int (Int32.ofNat len)] 7)) (Tl.setTop (mkF m 31 #[.val (.ref b), .val (.int (Int32.ofNat (o + i))), .val (.ref d), .val (.int (Int32.ofNat (q + i))), .val (.int (Int32.ofNat len)), .val (.int (Int32.ofNat i)), .val (.int (cv A (o + i)))] [.int (lo8 (cv A (o + i))), .int (Int32.ofNat (q + i)), .ref d])) := c5.trans (by
        refine XS.iload Xl.here hexec rfl (hb hbytes d15) rfl ?_
        refine sipushV Xl.here hexec rfl 255 (hb hbytes d17) (by decide) ?_
        refine XS.icmpYes Xl.here hexec rfl (pc0 := 20) rfl (hb hbytes d20) rfl (ii_le_t (hp i (by omega))) (by decide) rfl ?_
        refine XS.aloadN Xl.here hexec rfl (hb hbytes d26) rfl rfl ?_
        refine XS.iloadN Xl.here hexec rfl (hb hbytes d27) rfl ?_
        refine XS.iload Xl.here hexec rfl (hb hbytes d28) rfl ?_
        refine i2b Xl.here hexec rfl (hb hbytes d30) rfl ?_
        exact Steps.refl _)
      obtain ⟨T7, X7, p7, st7⟩ := Xl.aput hexec hBk rfl hlt rfl (fits_lo8 (cv A (o + i))) (g := (mkF m 31 #[.val (.ref b), .val (.int (Int32.ofNat (o + i))), .val (.ref d), .val (.int (Int32.ofNat (q + i))), .val (.int (Int32.ofNat len)), .val (.int (Int32.ofNat i)), .val (.int (cv A (o + i)))] [.int (lo8 (cv A (o + i))), .int (Int32.ofNat (q + i)), .ref d])) rfl (rest := []) rfl (hb hbytes d31)
      have c8 : Steps p.tables e below (s₁.setTop (entryFrame m #[.ref b, .int (Int32.ofNat o), .ref d, .int (Int32.ofNat q), .int (Int32.ofNat len)] 7)) (T7.setTop (mkF m 32 #[.val (.ref b), .val (.int (Int32.ofNat (o + i))), .val (.ref d), .val (.int (Int32.ofNat (q + i))), .val (.int (Int32.ofNat len)), .val (.int (Int32.ofNat i)), .val (.int (cv A (o + i)))] [])) := c6.trans (st7 _ (Steps.refl _))
      have c9 : Steps p.tables e below (s₁.setTop (entryFrame m #[.ref b, .int (Int32.ofNat o), .ref d, .int (Int32.ofNat q), .int (Int32.ofNat len)] 7)) (T7.setTop (mkF m 3 #[.val (.ref b), .val (.int (Int32.ofNat (o + i) + 1)), .val (.ref d), .val (.int (Int32.ofNat (q + i) + 1)), .val (.int (Int32.ofNat len)), .val (.int (Int32.ofNat i + 1)), .val (.int (cv A (o + i)))] [])) := c8.trans (by
        refine iincV X7.here hexec rfl 1 (hb hbytes d32) (by decide) rfl rfl ?_
        refine iincV X7.here hexec rfl 1 (hb hbytes d35) (by decide) rfl rfl ?_
        refine iincV X7.here hexec rfl 1 (hb hbytes d38) (by decide) rfl rfl ?_
        refine XS.goto X7.here hexec rfl (pc0 := 41) rfl (hb hbytes d41) (by decide) rfl ?_
        exact Steps.refl _)
      have c10 : Steps p.tables e below (s₁.setTop (entryFrame m #[.ref b, .int (Int32.ofNat o), .ref d, .int (Int32.ofNat q), .int (Int32.ofNat len)] 7)) (T7.setTop (mkF m 3 #[.val (.ref b), .val (.int (Int32.ofNat (o + (i + 1)))), .val (.ref d), .val (.int (Int32.ofNat (q + (i + 1)))), .val (.int (Int32.ofNat len)), .val (.int (Int32.ofNat (i + 1))), .val (.int (cv A (o + i)))] [])) := by
        have := c9
        rw [succ32, succ32, succ32] at this
        exact this
      exact ih (i + 1) (by omega) _ (Or.inr ⟨_, rfl, rfl⟩) T7 _ (by rw [copyLocs_step, ← List.append_assoc]; exact X7) (pl.trans p7) (fl.step (by omega) hlt (by simp)) c10
  obtain ⟨T9, B9, z9, X9, p9, f9, g9⟩ := loop len 0 (by omega) .unset (Or.inl rfl) s₁ B (by simpa [copyLocs] using X0) ⟨hB0.1, fun _ _ => rfl, rfl⟩ (Laid.zero _ _ _) c2
  have c11 : Steps p.tables e below (s₁.setTop (entryFrame m #[.ref b, .int (Int32.ofNat o), .ref d, .int (Int32.ofNat q), .int (Int32.ofNat len)] 7)) (T9.setTop (mkF m 46 #[.val (.ref b), .val (.int (Int32.ofNat (o + len))), .val (.ref d), .val (.int (Int32.ofNat (q + len))), .val (.int (Int32.ofNat len)), .val (.int (Int32.ofNat len)), z9] [.int (Int32.ofNat len)])) := g9.trans (by
    refine XS.iload X9.here hexec rfl (hb hbytes d3) rfl ?_
    refine XS.iload X9.here hexec rfl (hb hbytes d5) rfl ?_
    refine XS.icmpYes X9.here hexec rfl (pc0 := 7) rfl (hb hbytes d7) rfl (ii_ge_t (nlt32 (by omega) (Nat.le_refl _))) (by decide) rfl ?_
    refine XS.iload X9.here hexec rfl (hb hbytes d44) rfl ?_
    exact Steps.refl _)
  exact ⟨T9, some (.int (Int32.ofNat len)), _, _, _, X9, by simp, rfl, rfl, (fun h => by cases h), ⟨rfl, B9, p9.from hh0, f9⟩, fun fs hl => c11.trans (X9.ireturnOut hexec hret rfl (Or.inl rfl) (hb hbytes d46) hl)⟩
end Cmp5
namespace Cmp3
def yN : MethodName := ⟨"java/lang/StringUTF16", "compress", "([CII)[B"⟩
abbrev yB : ByteArray := jdk_52_method_16_code
theorem d0 : decode yB 0 = .ok (.iload_n 2, 1) := by decide +kernel
theorem d1 : decode yB 1 = .ok (.newarray .byte, 2) := by decide +kernel
theorem d3 : decode yB 3 = .ok (.astore_n 3, 1) := by decide +kernel
theorem d4 : decode yB 4 = .ok (.aload_n 0, 1) := by decide +kernel
theorem d5 : decode yB 5 = .ok (.iload_n 1, 1) := by decide +kernel
theorem d6 : decode yB 6 = .ok (.aload_n 3, 1) := by decide +kernel
theorem d7 : decode yB 7 = .ok (.iconst 0, 1) := by decide +kernel
theorem d8 : decode yB 8 = .ok (.iload_n 2, 1) := by decide +kernel
theorem d9 : decode yB 9 = .ok (.invokestatic 115, 3) := by decide +kernel
theorem d12 : decode yB 12 = .ok (.istore 4, 2) := by decide +kernel
theorem d14 : decode yB 14 = .ok (.iload 4, 2) := by decide +kernel
theorem d16 : decode yB 16 = .ok (.iload_n 2, 1) := by decide +kernel
theorem d17 : decode yB 17 = .ok (.if_icmp (.eq) 40, 3) := by decide +kernel
theorem d57 : decode yB 57 = .ok (.aload_n 3, 1) := by decide +kernel
theorem d58 : decode yB 58 = .ok (.areturn, 1) := by decide +kernel
def site : List Cond := [.arrayClass .byte, Cmp5.tab] ++ staticW U16 115 Cmp5.yN
def tab : Cond := tabOf yN yB 6 (some (.array .byte)) site
def P (b : Addr) (A : Cell) (o len : Nat) (args : Array Value) (s : State) : Prop := args = #[.ref b, .int (Int32.ofNat o), .int (Int32.ofNat len)] ∧ Ch b A s ∧ o + len ≤ A.slots.size ∧ len ≤ 536870912 ∧ ∀ i, i < len → ¬ 255 < cv A (o + i)
def E (b : Addr) (A : Cell) (o len : Nat) (r : Option Value) (s u : State) : Prop := NewArr .byte "[B" len (fun j => .int (lo8 (cv A (o + j)))) r s u ∧ u.heap.size = s.heap.size + 1
/-- no char of the range above 255: a new byte[] of their low bytes -/
theorem law (l : Launch) (b : Addr) (A : Cell) (o len : Nat) : Law l yN 3 3 1 18 yB 6 (some (.array .byte)) site (P b A o len) (E b A o len) [] 1 len := by
  refine Law.of_walk (plainFor_of_name (by decide +kernel)) (by decide +kernel) (by decide +kernel) (by decide) (fun _ _ h => by rw [h.1]; rfl) (fun _ U U' hal hh h => ⟨h.1, h.2.1.mv hal hh, h.2.2⟩) (fun r U U' V V' h1 hal h2 h => ⟨NewArr.mv r U U' V V' h1 hal h2 h.1, by rw [h1, h2]; exact h.2⟩) ?_
  intro p e s m args below meth c s₁ X0 hexec hbytes hml hret hlk hnm hown hh0 W hP
  obtain ⟨rfl, hA, l1, l2, hp⟩ := hP
  have a31 := hA.1.2.2.2
  have c1 : Steps p.tables e below (s₁.setTop (entryFrame m #[.ref b, .int (Int32.ofNat o), .int (Int32.ofNat len)] 6)) (s₁.setTop (mkF m 0 #[.val (.ref b), .val (.int (Int32.ofNat o)), .val (.int (Int32.ofNat len)), .unset, .unset, .unset] [])) := entry rfl
  have c2 : Steps p.tables e below (s₁.setTop (entryFrame m #[.ref b, .int (Int32.ofNat o), .int (Int32.ofNat len)] 6)) (s₁.setTop (mkF m 1 #[.val (.ref b), .val (.int (Int32.ofNat o)), .val (.int (Int32.ofNat len)), .unset, .unset, .unset] [.int (Int32.ofNat len)])) := c1.trans (by
    refine XS.iloadN X0.here hexec rfl (hb hbytes d0) rfl ?_
    exact Steps.refl _)
  obtain ⟨T3, B3, X3, ba3, bs3, bv3, bh3, bf3, st3⟩ := X0.anew hexec (atype := .byte) (wk W (.arrayClass .byte)) rfl (by show len * 1 ≤ _; omega) (by omega) (g := (mkF m 1 #[.val (.ref b), .val (.int (Int32.ofNat o)), .val (.int (Int32.ofNat len)), .unset, .unset, .unset] [.int (Int32.ofNat len)])) rfl (hb hbytes d1) (rest := []) rfl (Nat.le_refl _) (by show 0 + len ≤ len; omega)
  rw [hh0] at ba3 st3
  have kp3 : XT.Kept s T3 := (XT.Kept.of_eq hh0).push bh3
  have hA3 := hA.keep X3.warmed.alike (kp3 _ _ hA.1.1)
  have hne : b ≠ s.heap.size := hA.1.ne
  have c4 : Steps p.tables e below (s₁.setTop (entryFrame m #[.ref b, .int (Int32.ofNat o), .int (Int32.ofNat len)] 6)) (T3.setTop (mkF m 3 #[.val (.ref b), .val (.int (Int32.ofNat o)), .val (.int (Int32.ofNat len)), .unset, .unset, .unset] [.ref s.heap.size])) := c2.trans (st3 _ (Steps.refl _))
  have c5 : Steps p.tables e below (s₁.setTop (entryFrame m #[.ref b, .int (Int32.ofNat o), .int (Int32.ofNat len)] 6)) (T3.setTop (mkF m 9 #[.val (.ref b), .val (.int (Int32.ofNat o)), .val (.int (Int32.ofNat len)), .val (.ref s.heap.size), .unset, .unset] [.int (Int32.ofNat len), .int 0, .ref s.heap.size, .int (Int32.ofNat o), .ref b])) := c4.trans (by
    refine XS.astoreN X3.here hexec rfl (hb hbytes d3) rfl rfl rfl ?_
    refine XS.aloadN X3.here hexec rfl (hb hbytes d4) rfl rfl ?_
    refine XS.iloadN X3.here hexec rfl (hb hbytes d5) rfl ?_
    refine XS.aloadN X3.here hexec rfl (hb hbytes d6) rfl rfl ?_
    refine iconstV X3.here hexec rfl 0 (hb hbytes d7) (by decide) ?_
    refine XS.iloadN X3.here hexec rfl (hb hbytes d8) rfl ?_
    exact Steps.refl _)
  obtain ⟨v6, T6, X6, E6, g6⟩ := X3.callS hexec (Cmp5.law l b A s.heap.size B3 o 0 len) hown (wks W (staticW U16 115 Cmp5.yN)) (wk W Cmp5.tab) (W := 0) (Nat.le_of_ble_eq_true rfl) (Nat.le_of_ble_eq_true rfl) (Nat.le_refl _) (by show 0 + len + 0 ≤ len; omega) (g := (mkF m 9 #[.val (.ref b), .val (.int (Int32.ofNat o)), .val (.int (Int32.ofNat len)), .val (.ref s.heap.size), .unset, .unset] [.int (Int32.ofNat len), .int (Int32.ofNat 0), .ref s.heap.size, .int (Int32.ofNat o), .ref b])) rfl (by rw [hml]; rfl) c5 (argsL := [.ref b, .int (Int32.ofNat o), .ref s.heap.size, .int (Int32.ofNat 0), .int (Int32.ofNat len)]) (rest := []) rfl rfl (by show 2 * 0 + 0 ≤ _; decide) (hb hbytes d9) (⟨rfl, hA3, ba3, hne, l1, by rw [bs3]; simp, hp⟩)
  obtain ⟨rfl, B6, p6, f6⟩ := E6
  have c7 : Steps p.tables e below (s₁.setTop (entryFrame m #[.ref b, .int (Int32.ofNat o), .int (Int32.ofNat len)] 6)) (T6.setTop (mkF m 12 #[.val (.ref b), .val (.int (Int32.ofNat o)), .val (.int (Int32.ofNat len)), .val (.ref s.heap.size), .unset, .unset] [.int (Int32.ofNat len)])) := g6
  have c8 : Steps p.tables e below (s₁.setTop (entryFrame m #[.ref b, .int (Int32.ofNat o), .int (Int32.ofNat len)] 6)) (T6.setTop (mkF m 58 #[.val (.ref b), .val (.int (Int32.ofNat o)), .val (.int (Int32.ofNat len)), .val (.ref s.heap.size), .val (.int (Int32.ofNat len)), .unset] [.ref s.heap.size])) := c7.trans (by
    refine XS.istore X6.here hexec rfl (hb hbytes d12) rfl rfl ?_
    refine XS.iload X6.here hexec rfl (hb hbytes d14) rfl ?_
    refine XS.iloadN X6.here hexec rfl (hb hbytes d16) rfl ?_
    refine XS.icmpYes X6.here hexec rfl (pc0 := 17) rfl (hb hbytes d17) rfl (ii_eq_t rfl) (by decide) rfl ?_
    refine XS.aloadN X6.here hexec rfl (hb hbytes d57) rfl rfl ?_
    exact Steps.refl _)
  have X8 := X6.wide (L' := []) (cells' := 1) (slots' := len) (fun x hx hlt => by
    simp only [List.nil_append, copyLocs, List.mem_map, List.mem_range] at hx
    obtain ⟨i, -, rfl⟩ := hx
    exact absurd hlt (Nat.lt_irrefl _)) (Nat.le_refl _) (by omega)
  exact ⟨T6, some (.ref s.heap.size), _, _, _, X8, rfl, rfl, rfl, (fun h => by cases h), ⟨⟨rfl, B6, ba3.like (X3.warmed.alike.symm.trans X6.warmed.alike) p6.1 f6.1 f6.2.1 f6.2.2.1, f6.2.1.trans bv3, by rw [X6.warmed.alike.findClass, f6.1]; exact bf3, by rw [f6.2.2.1, bs3]; simp, fun j hj => by rw [f6.2.2.2 j, if_pos (by omega)]; rfl, kp3.put p6 (Nat.le_refl _)⟩, by rw [p6.2.2, bh3, hh0]; simp⟩, fun fs hl => c8.trans (X8.areturnOut hexec rfl hret rfl (hb hbytes d58) hl)⟩
end Cmp3
namespace CodL
def yN : MethodName := ⟨"java/lang/StringUTF16", "coderFromArrayLen", "([BI)B"⟩
abbrev yB : ByteArray := jdk_52_method_15_code
theorem d0 : decode yB 0 = .ok (.iload_n 1, 1) := by decide +kernel
theorem d1 : decode yB 1 = .ok (.aload_n 0, 1) := by decide +kernel
theorem d2 : decode yB 2 = .ok (.arraylength, 1) := by decide +kernel
theorem d3 : decode yB 3 = .ok (.isub, 1) := by decide +kernel
theorem d4 : decode yB 4 = .ok (.bipush 31, 2) := by decide +kernel
theorem d6 : decode yB 6 = .ok (.iushr, 1) := by decide +kernel
theorem d7 : decode yB 7 = .ok (.i2b, 1) := by decide +kernel
theorem d8 : decode yB 8 = .ok (.ireturn, 1) := by decide +kernel
def site : List Cond := []
def tab : Cond := tabOf yN yB 2 (some .byte) site
def P (d : Addr) (B : Cell) (args : Array Value) (s : State) : Prop := args = #[.ref d, .int (Int32.ofNat B.slots.size)] ∧ Arr .byte d B s
def E (r : Option Value) (s u : State) : Prop := XT.PureE (some (.int 0)) r s u
/-- an array as long as the number of chars: LATIN1 -/
theorem law (l : Launch) (d : Addr) (B : Cell) : Law l yN 2 2 0 0 yB 2 (some .byte) site (P d B) E [] 0 0 := by
  refine Law.of_walk (plainFor_of_name (by decide +kernel)) (by decide +kernel) (by decide +kernel) (by decide) (fun _ _ h => by rw [h.1]; rfl) (fun _ U U' hal hh h => ⟨h.1, h.2.mv hal hh⟩) (fun r U U' V V' h1 hal h2 h => XT.PureE.mv r U U' V V' h1 hal h2 h) ?_
  intro p e s m args below meth c s₁ X0 hexec hbytes hml hret hlk hnm hown hh0 W hP
  obtain ⟨rfl, hB⟩ := hP
  have hB0 := hB.mv X0.warmed.alike hh0
  have c1 : Steps p.tables e below (s₁.setTop (entryFrame m #[.ref d, .int (Int32.ofNat B.slots.size)] 2)) (s₁.setTop (mkF m 0 #[.val (.ref d), .val (.int (Int32.ofNat B.slots.size))] [])) := entry rfl
  have c2 : Steps p.tables e below (s₁.setTop (entryFrame m #[.ref d, .int (Int32.ofNat B.slots.size)] 2)) (s₁.setTop (mkF m 2 #[.val (.ref d), .val (.int (Int32.ofNat B.slots.size))] [.ref d, .int (Int32.ofNat B.slots.size)])) := c1.trans (by
    refine XS.iloadN X0.here hexec rfl (hb hbytes d0) rfl ?_
    refine XS.aloadN X0.here hexec rfl (hb hbytes d1) rfl rfl ?_
    exact Steps.refl _)
  have c3 : Steps p.tables e below (s₁.setTop (entryFrame m #[.ref d, .int (Int32.ofNat B.slots.size)] 2)) (s₁.setTop (mkF m 8 #[.val (.ref d), .val (.int (Int32.ofNat B.slots.size))] [.int (lo8 (ushr (Int32.ofNat B.slots.size - Int32.ofNat B.slots.size) 31))])) := c2.trans (by
    refine X0.alen hexec hB0 rfl rfl (hb hbytes d2) ?_
    refine XS.isub X0.here hexec rfl (hb hbytes d3) rfl ?_
    refine bipushV X0.here hexec rfl 31 (hb hbytes d4) (by decide) ?_
    refine iushr X0.here hexec rfl (hb hbytes d6) rfl ?_
    refine i2b X0.here hexec rfl (hb hbytes d7) rfl ?_
    exact Steps.refl _)
  have e0 : lo8 (ushr (Int32.ofNat B.slots.size - Int32.ofNat B.slots.size) 31) = 0 := by rw [Int32.sub_self]; decide
  rw [e0] at c3
  exact ⟨s₁, some (.int 0), _, _, _, X0, rfl, rfl, rfl, (fun h => by cases h), ⟨rfl, hh0⟩, fun fs hl => c3.trans (X0.ireturnOut hexec hret rfl (Or.inr (Or.inr (Or.inl rfl))) (hb hbytes d8) hl)⟩
end CodL
/-- the String at a is Latin-1 over a new byte[] (the heap's one new cell): the low bytes of the len chars of A from o on; every cell but a is kept -/
def Got (a : Addr) (D : Cell) (fV fC : Field) (A : Cell) (o len : Nat) (r : Option Value) (s u : State) : Prop := r = none ∧ ∃ D' V : Cell, Blank "java/lang/String" a D' u ∧ Same D D' [fV.slot, fC.slot] ∧ D'.slots[fV.slot]? = some (.ref s.heap.size) ∧ D'.slots[fC.slot]? = some (.int 0) ∧ Arr .byte s.heap.size V u ∧ V.vm = .none ∧ u.vm.findClass "[B" = some V.cls ∧ V.slots.size = len ∧ (∀ j, j < len → V.slots[j]? = some (.int (lo8 (cv A (o + j))))) ∧ (∀ (y : Addr) (c : Cell), y ≠ a → s.heap[y]? = some c → u.heap[y]? = some c) ∧ u.heap.size = s.heap.size + 1
theorem Got.mv {a : Addr} {D A : Cell} {fV fC : Field} {o len : Nat} : ∀ r (U U' V V' : State), U'.heap = U.heap → V.vm.Alike V'.vm → V'.heap = V.heap → Got a D fV fC A o len r U V → Got a D fV fC A o len r U' V' :=
  fun r U U' V V' h1 hal h2 ⟨e0, D', X, a1, a2, a3, a4, a5, a6, a7, a8, a9, a10, a11⟩ => ⟨e0, D', X, a1.mv hal h2, a2, by rw [h1]; exact a3, a4, by rw [h1]; exact a5.mv hal h2, a6, by rw [hal.findClass]; exact a7, a8, a9, by rw [h1, h2]; exact a10, by rw [h1, h2]; exact a11⟩
namespace New4
def yN : MethodName := ⟨"java/lang/String", "<init>", "([CIILjava/lang/Void;)V"⟩
abbrev yB : ByteArray := jdk_42_method_149_code
theorem d0 : decode yB 0 = .ok (.aload_n 0, 1) := by decide +kernel
theorem d1 : decode yB 1 = .ok (.invokespecial 1, 3) := by decide +kernel
theorem d4 : decode yB 4 = .ok (.iload_n 3, 1) := by decide +kernel
theorem d5 : decode yB 5 = .ok (.ifCond (.ne) 22, 3) := by decide +kernel
theorem d27 : decode yB 27 = .ok (.getstatic 38, 3) := by decide +kernel
theorem d30 : decode yB 30 = .ok (.ifCond (.eq) 28, 3) := by decide +kernel
theorem d33 : decode yB 33 = .ok (.aload_n 1, 1) := by decide +kernel
theorem d34 : decode yB 34 = .ok (.iload_n 2, 1) := by decide +kernel
theorem d35 : decode yB 35 = .ok (.iload_n 3, 1) := by decide +kernel
theorem d36 : decode yB 36 = .ok (.invokestatic 177, 3) := by decide +kernel
theorem d39 : decode yB 39 = .ok (.astore 5, 2) := by decide +kernel
theorem d41 : decode yB 41 = .ok (.aload_n 0, 1) := by decide +kernel
theorem d42 : decode yB 42 = .ok (.aload 5, 2) := by decide +kernel
theorem d44 : decode yB 44 = .ok (.iload_n 3, 1) := by decide +kernel
theorem d45 : decode yB 45 = .ok (.invokestatic 47, 3) := by decide +kernel
theorem d48 : decode yB 48 = .ok (.putfield 15, 3) := by decide +kernel
theorem d51 : decode yB 51 = .ok (.aload_n 0, 1) := by decide +kernel
theorem d52 : decode yB 52 = .ok (.aload 5, 2) := by decide +kernel
theorem d54 : decode yB 54 = .ok (.putfield 9, 3) := by decide +kernel
theorem d57 : decode yB 57 = .ok (.return_, 1) := by decide +kernel
def site : List Cond := [.fieldLink "java/lang/String" 38 "java/lang/String" "COMPACT_STRINGS" "Z", Cmp3.tab, CodL.tab, .laysFinal "java/lang/String" "java/lang/String" "value" "[B", .fieldLink "java/lang/String" 9 "java/lang/String" "value" "[B", .laysFinal "java/lang/String" "java/lang/String" "coder" "B", .fieldLink "java/lang/String" 15 "java/lang/String" "coder" "B"] ++ objW "java/lang/String" 1 ++ staticW "java/lang/String" 177 Cmp3.yN ++ staticW "java/lang/String" 47 CodL.yN
def tab : Cond := tabOf yN yB 6 none site
def P (a : Addr) (D : Cell) (fV fC : Field) (b : Addr) (A : Cell) (z : Int32) (o len : Nat) (args : Array Value) (s : State) : Prop := args = #[.ref a, .ref b, .int (Int32.ofNat o), .int (Int32.ofNat len), .null] ∧ Blank "java/lang/String" a D s ∧ Found "java/lang/String" "value" "[B" fV s ∧ Found "java/lang/String" "coder" "B" fC s ∧ Ch b A s ∧ StaticIs s "java/lang/String" "COMPACT_STRINGS" "Z" (.int z) ∧ ¬ z = 0 ∧ 0 < len ∧ o + len ≤ A.slots.size ∧ len ≤ 536870912 ∧ ∀ i, i < len → ¬ 255 < cv A (o + i)
def E (a : Addr) (D : Cell) (fV fC : Field) (A : Cell) (o len : Nat) (r : Option Value) (s u : State) : Prop := Got a D fV fC A o len r s u
/-- len > 0, no char of the range above 255: a Latin-1 String of their low bytes -/
theorem law (l : Launch) (a : Addr) (D : Cell) (fV fC : Field) (b : Addr) (A : Cell) (z : Int32) (o len : Nat) : Law l yN 5 4 2 35 yB 6 none site (P a D fV fC b A z o len) (E a D fV fC A o len) [⟨a, fC.slot⟩, ⟨a, fV.slot⟩] 1 len := by
  refine Law.of_walk (plainFor_of_name (by decide +kernel)) (by decide +kernel) (by decide +kernel) (by decide) (fun _ _ h => by rw [h.1]; rfl) (fun _ U U' hal hh h => ⟨h.1, h.2.1.mv hal hh, h.2.2.1.al hal, h.2.2.2.1.al hal, h.2.2.2.2.1.mv hal hh, h.2.2.2.2.2.1.there hal hh, h.2.2.2.2.2.2⟩) (fun r U U' V V' h1 hal h2 h => Got.mv r U U' V V' h1 hal h2 h) ?_
  intro p e s m args below meth c s₁ X0 hexec hbytes hml hret hlk hnm hown hh0 W hP
  obtain ⟨rfl, hB, f1, f2, hA, s1, hz, l0, l1, l2, hp⟩ := hP
  have a31 := hA.1.2.2.2
  have c1 : Steps p.tables e below (s₁.setTop (entryFrame m #[.ref a, .ref b, .int (Int32.ofNat o), .int (Int32.ofNat len), .null] 6)) (s₁.setTop (mkF m 0 #[.val (.ref a), .val (.ref b), .val (.int (Int32.ofNat o)), .val (.int (Int32.ofNat len)), .val .null, .unset] [])) := entry rfl
  have c2 : Steps p.tables e below (s₁.setTop (entryFrame m #[.ref a, .ref b, .int (Int32.ofNat o), .int (Int32.ofNat len), .null] 6)) (s₁.setTop (mkF m 1 #[.val (.ref a), .val (.ref b), .val (.int (Int32.ofNat o)), .val (.int (Int32.ofNat len)), .val .null, .unset] [.ref a])) := c1.trans (by
    refine XS.aloadN X0.here hexec rfl (hb hbytes d0) rfl rfl ?_
    exact Steps.refl _)
  obtain ⟨T3, X3, q3, st3⟩ := X0.oinit hexec hown (wks W (objW "java/lang/String" 1)) (g := (mkF m 1 #[.val (.ref a), .val (.ref b), .val (.int (Int32.ofNat o)), .val (.int (Int32.ofNat len)), .val .null, .unset] [.ref a])) rfl (by rw [hml]; rfl) (rest := []) rfl (hb hbytes d1) (W := 0) (by show 2 * 0 + 0 ≤ _; decide) (Nat.le_of_ble_eq_true rfl) (Nat.le_of_ble_eq_true rfl)
  have hh3 := q3.trans hh0
  have c4 : Steps p.tables e below (s₁.setTop (entryFrame m #[.ref a, .ref b, .int (Int32.ofNat o), .int (Int32.ofNat len), .null] 6)) (T3.setTop (mkF m 27 #[.val (.ref a), .val (.ref b), .val (.int (Int32.ofNat o)), .val (.int (Int32.ofNat len)), .val .null, .unset] [])) := (c2.trans (st3 _ (Steps.refl _))).trans (by
    refine XS.iloadN X3.here hexec rfl (hb hbytes d4) rfl ?_
    refine XS.ifYes X3.here hexec rfl (pc0 := 5) rfl (hb hbytes d5) rfl (i0_ne_t (nz32 (by omega) l0)) (by decide) rfl ?_
    exact Steps.refl _)
  obtain ⟨T5, X5, q5, st5⟩ := X3.sget hexec hown (wk W (.fieldLink "java/lang/String" 38 "java/lang/String" "COMPACT_STRINGS" "Z")) s1 (fun _ _ h => by rw [hh3]; exact h) (g := (mkF m 27 #[.val (.ref a), .val (.ref b), .val (.int (Int32.ofNat o)), .val (.int (Int32.ofNat len)), .val .null, .unset] [])) rfl (hb hbytes d27)
  have hh5 := q5.trans hh3
  have c6 : Steps p.tables e below (s₁.setTop (entryFrame m #[.ref a, .ref b, .int (Int32.ofNat o), .int (Int32.ofNat len), .null] 6)) (T5.setTop (mkF m 30 #[.val (.ref a), .val (.ref b), .val (.int (Int32.ofNat o)), .val (.int (Int32.ofNat len)), .val .null, .unset] [.int z])) := c4.trans (st5 _ (Steps.refl _))
  have c7 : Steps p.tables e below (s₁.setTop (entryFrame m #[.ref a, .ref b, .int (Int32.ofNat o), .int (Int32.ofNat len), .null] 6)) (T5.setTop (mkF m 36 #[.val (.ref a), .val (.ref b), .val (.int (Int32.ofNat o)), .val (.int (Int32.ofNat len)), .val .null, .unset] [.int (Int32.ofNat len), .int (Int32.ofNat o), .ref b])) := c6.trans (by
    refine XS.ifNo X5.here hexec rfl (hb hbytes d30) rfl (i0_eq_f hz) ?_
    refine XS.aloadN X5.here hexec rfl (hb hbytes d33) rfl rfl ?_
    refine XS.iloadN X5.here hexec rfl (hb hbytes d34) rfl ?_
    refine XS.iloadN X5.here hexec rfl (hb hbytes d35) rfl ?_
    exact Steps.refl _)
  obtain ⟨v8, T8, X8, E8, g8⟩ := X5.callS hexec (Cmp3.law l b A o len) hown (wks W (staticW "java/lang/String" 177 Cmp3.yN)) (wk W Cmp3.tab) (W := 0) (Nat.le_of_ble_eq_true rfl) (Nat.le_of_ble_eq_true rfl) (Nat.le_refl _) (by show 0 + len ≤ len; omega) (g := (mkF m 36 #[.val (.ref a), .val (.ref b), .val (.int (Int32.ofNat o)), .val (.int (Int32.ofNat len)), .val .null, .unset] [.int (Int32.ofNat len), .int (Int32.ofNat o), .ref b])) rfl (by rw [hml]; rfl) c7 (argsL := [.ref b, .int (Int32.ofNat o), .int (Int32.ofNat len)]) (rest := []) rfl rfl (by show 2 * 0 + 0 ≤ _; decide) (hb hbytes d36) (⟨rfl, hA.mv X5.warmed.alike hh5, l1, l2, hp⟩)
  obtain ⟨e8, z8⟩ := E8
  obtain ⟨rfl, N, n1, n2, n3, n4, n5, n6⟩ := NewArr.mv _ T5 s _ _ hh5.symm (Vm.Alike.refl _) rfl e8
  rw [hh5] at z8
  have hB1 := hB.keep X8.warmed.alike (n6 _ _ hB.1)
  have hne : s.heap.size ≠ a := (Nat.ne_of_lt (Array.getElem?_eq_some_iff.mp hB.1).1).symm
  have c9 : Steps p.tables e below (s₁.setTop (entryFrame m #[.ref a, .ref b, .int (Int32.ofNat o), .int (Int32.ofNat len), .null] 6)) (T8.setTop (mkF m 39 #[.val (.ref a), .val (.ref b), .val (.int (Int32.ofNat o)), .val (.int (Int32.ofNat len)), .val .null, .unset] [.ref s.heap.size])) := g8
  have c10 : Steps p.tables e below (s₁.setTop (entryFrame m #[.ref a, .ref b, .int (Int32.ofNat o), .int (Int32.ofNat len), .null] 6)) (T8.setTop (mkF m 45 #[.val (.ref a), .val (.ref b), .val (.int (Int32.ofNat o)), .val (.int (Int32.ofNat len)), .val .null, .val (.ref s.heap.size)] [.int (Int32.ofNat N.slots.size), .ref s.heap.size, .ref a])) := by
    have hc : Steps p.tables e below (s₁.setTop (entryFrame m #[.ref a, .ref b, .int (Int32.ofNat o), .int (Int32.ofNat len), .null] 6)) (T8.setTop (mkF m 45 #[.val (.ref a), .val (.ref b), .val (.int (Int32.ofNat o)), .val (.int (Int32.ofNat len)), .val .null, .val (.ref s.heap.size)] [.int (Int32.ofNat len), .ref s.heap.size, .ref a])) := c9.trans (by
      refine XS.astore X8.here hexec rfl (hb hbytes d39) rfl rfl rfl ?_
      refine XS.aloadN X8.here hexec rfl (hb hbytes d41) rfl rfl ?_
      refine XS.aload X8.here hexec rfl (hb hbytes d42) rfl rfl ?_
      refine XS.iloadN X8.here hexec rfl (hb hbytes d44) rfl ?_
      exact Steps.refl _)
    rw [n4]; exact hc
  obtain ⟨v11, T11, X11, E11, g11⟩ := X8.callS hexec (CodL.law l s.heap.size N) hown (wks W (staticW "java/lang/String" 47 CodL.yN)) (wk W CodL.tab) (W := 1) (Nat.le_of_ble_eq_true rfl) (Nat.le_of_ble_eq_true rfl) (Nat.le_refl _) (by show 0 + len + 0 ≤ len; omega) (g := (mkF m 45 #[.val (.ref a), .val (.ref b), .val (.int (Int32.ofNat o)), .val (.int (Int32.ofNat len)), .val .null, .val (.ref s.heap.size)] [.int (Int32.ofNat N.slots.size), .ref s.heap.size, .ref a])) rfl (by rw [hml]; rfl) c10 (argsL := [.ref s.heap.size, .int (Int32.ofNat N.slots.size)]) (rest := [.ref a]) rfl rfl (by show 2 * 0 + (1 + 0) ≤ _; decide) (hb hbytes d45) (⟨rfl, n1⟩)
  obtain ⟨rfl, q11⟩ := E11
  have hB11 := hB1.mv (X8.warmed.alike.symm.trans X11.warmed.alike) q11
  have c12 : Steps p.tables e below (s₁.setTop (entryFrame m #[.ref a, .ref b, .int (Int32.ofNat o), .int (Int32.ofNat len), .null] 6)) (T11.setTop (mkF m 48 #[.val (.ref a), .val (.ref b), .val (.int (Int32.ofNat o)), .val (.int (Int32.ofNat len)), .val .null, .val (.ref s.heap.size)] [.int 0, .ref a])) := g11
  obtain ⟨T13, X13, p13, bl13, sl13, st13⟩ := X11.finit hexec hown (wk W (.fieldLink "java/lang/String" 15 "java/lang/String" "coder" "B")) (Or.inr ⟨_, (wk W (.laysFinal "java/lang/String" "java/lang/String" "coder" "B"))⟩) (Or.inl ⟨rfl, hnm⟩) f2 (Or.inl rfl) hB11 (t := .byte) (by decide +kernel) rfl (g := (mkF m 48 #[.val (.ref a), .val (.ref b), .val (.int (Int32.ofNat o)), .val (.int (Int32.ofNat len)), .val .null, .val (.ref s.heap.size)] [.int 0, .ref a])) rfl (rest := []) rfl (hb hbytes d48)
  have c14 : Steps p.tables e below (s₁.setTop (entryFrame m #[.ref a, .ref b, .int (Int32.ofNat o), .int (Int32.ofNat len), .null] 6)) (T13.setTop (mkF m 54 #[.val (.ref a), .val (.ref b), .val (.int (Int32.ofNat o)), .val (.int (Int32.ofNat len)), .val .null, .val (.ref s.heap.size)] [.ref s.heap.size, .ref a])) := (c12.trans (st13 _ (Steps.refl _))).trans (by
    refine XS.aloadN X13.here hexec rfl (hb hbytes d51) rfl rfl ?_
    refine XS.aload X13.here hexec rfl (hb hbytes d52) rfl rfl ?_
    exact Steps.refl _)
  obtain ⟨T15, X15, p15, bl15, sl15, st15⟩ := X13.finit hexec hown (wk W (.fieldLink "java/lang/String" 9 "java/lang/String" "value" "[B")) (Or.inr ⟨_, (wk W (.laysFinal "java/lang/String" "java/lang/String" "value" "[B"))⟩) (Or.inl ⟨rfl, hnm⟩) f1 (Or.inl rfl) bl13 (t := (.array .byte)) (by decide +kernel) rfl (g := (mkF m 54 #[.val (.ref a), .val (.ref b), .val (.int (Int32.ofNat o)), .val (.int (Int32.ofNat len)), .val .null, .val (.ref s.heap.size)] [.ref s.heap.size, .ref a])) rfl (rest := []) rfl (hb hbytes d54)
  have c16 : Steps p.tables e below (s₁.setTop (entryFrame m #[.ref a, .ref b, .int (Int32.ofNat o), .int (Int32.ofNat len), .null] 6)) (T15.setTop (mkF m 57 #[.val (.ref a), .val (.ref b), .val (.int (Int32.ofNat o)), .val (.int (Int32.ofNat len)), .val .null, .val (.ref s.heap.size)] [])) := c14.trans (st15 _ (Steps.refl _))
  have ap := apart (Or.inr ⟨_, (wk W (.laysFinal "java/lang/String" "java/lang/String" "value" "[B"))⟩) (Or.inr ⟨_, (wk W (.laysFinal "java/lang/String" "java/lang/String" "coder" "B"))⟩) f1 f2 (t₁ := .array .byte) (t₂ := .byte) (by decide +kernel) (by decide +kernel) (by decide)
  have al := X8.warmed.alike.symm.trans X15.warmed.alike
  have n7 : T11.heap[s.heap.size]? = some N := by rw [q11]; exact n1.1
  exact ⟨T15, none, _, _, _, X15, by simp, rfl, by omega, (fun _ => rfl), ⟨rfl, _, N, bl15, ((Same.refl D _).set _ (by simp)).set _ (by simp), sl15, (Cell.slots_setSlot_ne _ ap).trans sl13, n1.keep al (p15.other hne (p13.other hne n7)), n2, by rw [al.findClass]; exact n3, n4, n5, fun y c h1 h2 => p15.other h1 (p13.other h1 (by rw [q11]; exact n6 y c h2)), by rw [p15.2.2, p13.2.2, q11]; exact z8⟩, fun fs hl => c16.trans (X15.returnOut hexec hret (hb hbytes d57) hl)⟩
end New4
namespace New1
def yN : MethodName := ⟨"java/lang/String", "<init>", "([C)V"⟩
abbrev yB : ByteArray := jdk_42_method_3_code
theorem d0 : decode yB 0 = .ok (.aload_n 0, 1) := by decide +kernel
theorem d1 : decode yB 1 = .ok (.aload_n 1, 1) := by decide +kernel
theorem d2 : decode yB 2 = .ok (.iconst 0, 1) := by decide +kernel
theorem d3 : decode yB 3 = .ok (.aload_n 1, 1) := by decide +kernel
theorem d4 : decode yB 4 = .ok (.arraylength, 1) := by decide +kernel
theorem d5 : decode yB 5 = .ok (.aconst_null, 1) := by decide +kernel
theorem d6 : decode yB 6 = .ok (.invokespecial 27, 3) := by decide +kernel
theorem d9 : decode yB 9 = .ok (.return_, 1) := by decide +kernel
def site : List Cond := [New4.tab] ++ initW "java/lang/String" 27 New4.yN
def tab : Cond := tabOf yN yB 2 none site
def P (a : Addr) (D : Cell) (fV fC : Field) (b : Addr) (A : Cell) (z : Int32) (args : Array Value) (s : State) : Prop := args = #[.ref a, .ref b] ∧ Blank "java/lang/String" a D s ∧ Found "java/lang/String" "value" "[B" fV s ∧ Found "java/lang/String" "coder" "B" fC s ∧ Ch b A s ∧ StaticIs s "java/lang/String" "COMPACT_STRINGS" "Z" (.int z) ∧ ¬ z = 0 ∧ 0 < A.slots.size ∧ A.slots.size ≤ 536870912 ∧ ∀ i, i < A.slots.size → ¬ 255 < cv A i
def E (a : Addr) (D : Cell) (fV fC : Field) (A : Cell) (r : Option Value) (s u : State) : Prop := Got a D fV fC A 0 A.slots.size r s u
/-- new String(chars), not empty, no char above 255: a Latin-1 String of their low bytes -/
theorem law (l : Launch) (a : Addr) (D : Cell) (fV fC : Field) (b : Addr) (A : Cell) (z : Int32) : Law l yN 2 1 3 52 yB 2 none site (P a D fV fC b A z) (E a D fV fC A) [⟨a, fC.slot⟩, ⟨a, fV.slot⟩] 1 A.slots.size := by
  refine Law.of_walk (plainFor_of_name (by decide +kernel)) (by decide +kernel) (by decide +kernel) (by decide) (fun _ _ h => by rw [h.1]; rfl) (fun _ U U' hal hh h => ⟨h.1, h.2.1.mv hal hh, h.2.2.1.al hal, h.2.2.2.1.al hal, h.2.2.2.2.1.mv hal hh, h.2.2.2.2.2.1.there hal hh, h.2.2.2.2.2.2⟩) (fun r U U' V V' h1 hal h2 h => Got.mv r U U' V V' h1 hal h2 h) ?_
  intro p e s m args below meth c s₁ X0 hexec hbytes hml hret hlk hnm hown hh0 W hP
  obtain ⟨rfl, hB, f1, f2, hA, s1, hz, l0, l2, hp⟩ := hP
  have c1 : Steps p.tables e below (s₁.setTop (entryFrame m #[.ref a, .ref b] 2)) (s₁.setTop (mkF m 0 #[.val (.ref a), .val (.ref b)] [])) := entry rfl
  have c2 : Steps p.tables e below (s₁.setTop (entryFrame m #[.ref a, .ref b] 2)) (s₁.setTop (mkF m 6 #[.val (.ref a), .val (.ref b)] [.null, .int (Int32.ofNat A.slots.size), .int 0, .ref b, .ref a])) := c1.trans (by
    refine XS.aloadN X0.here hexec rfl (hb hbytes d0) rfl rfl ?_
    refine XS.aloadN X0.here hexec rfl (hb hbytes d1) rfl rfl ?_
    refine iconstV X0.here hexec rfl 0 (hb hbytes d2) (by decide) ?_
    refine XS.aloadN X0.here hexec rfl (hb hbytes d3) rfl rfl ?_
    refine X0.alen hexec (hA.1.mv X0.warmed.alike hh0) rfl rfl (hb hbytes d4) ?_
    refine XS.aconstNull X0.here hexec rfl (hb hbytes d5) ?_
    exact Steps.refl _)
  obtain ⟨v3, T3, X3, E3, g3⟩ := X0.callN hexec (New4.law l a D fV fC b A z 0 A.slots.size) rfl hown (wks W (initW "java/lang/String" 27 New4.yN)) (W New4.tab (by simp only [site, List.mem_cons, List.mem_append, true_or, or_true])) (W := 0) (Nat.le_of_ble_eq_true rfl) (Nat.le_of_ble_eq_true rfl) (Nat.le_refl _) (by show 0 + A.slots.size ≤ A.slots.size; omega) (g := (mkF m 6 #[.val (.ref a), .val (.ref b)] [.null, .int (Int32.ofNat A.slots.size), .int (Int32.ofNat 0), .ref b, .ref a])) rfl (by rw [hml]; rfl) c2 (argsL := [.ref b, .int (Int32.ofNat 0), .int (Int32.ofNat A.slots.size), .null]) (rest := []) rfl rfl (by show 2 * 0 + 0 ≤ _; decide) (hb hbytes d6) (⟨rfl, hB.mv X0.warmed.alike hh0, f1.al X0.warmed.alike, f2.al X0.warmed.alike, hA.mv X0.warmed.alike hh0, s1.there X0.warmed.alike hh0, hz, l0, by omega, l2, fun i hi => by rw [Nat.zero_add]; exact hp i hi⟩)
  have e0 := Got.mv _ s₁ s _ _ hh0.symm (Vm.Alike.refl _) rfl E3
  obtain rfl := e0.1
  have c4 : Steps p.tables e below (s₁.setTop (entryFrame m #[.ref a, .ref b] 2)) (T3.setTop (mkF m 9 #[.val (.ref a), .val (.ref b)] [])) := g3
  exact ⟨T3, none, _, _, _, X3, by simp, rfl, by omega, (fun _ => rfl), e0, fun fs hl => c4.trans (X3.returnOut hexec hret (hb hbytes d9) hl)⟩
theorem pays {l : Launch} {R : Room} {p : Program} {e : Env} {below : List Frame} {s : State} {sargs : Array Value} {len W : Nat} (a : Addr) (D : Cell) (fV fC : Field) (b : Addr) (A : Cell) (z : Int32) (htab : tab.before sargs s = true) (hfr : 4 ≤ R.frames) (hlo : W + 65 ≤ R.locals) :
    Back l R p e below s sargs yN len W (fun A₁ a₁ => A₁.cells + 1 ≤ R.cells ∧ A₁.slots + A.slots.size ≤ R.slots ∧ P a D fV fC b A z a₁ A₁.U) (fun A₁ _ v₁ B₁ => E a D fV fC A v₁ A₁.U B₁.U ∧ B₁.locs = A₁.locs ++ [⟨a, fC.slot⟩, ⟨a, fV.slot⟩] ∧ B₁.cells = A₁.cells + 1 ∧ B₁.slots = A₁.slots + A.slots.size) :=
  (law l a D fV fC b A z).pays htab hfr (by omega)
end New1
/-- the byte, read back as charAt reads it, is the char -/
theorem lo8_mask {x : Int32} (h0 : ¬ x < 0) (h1 : ¬ 255 < x) : lo8 x &&& 255 = x := by
  have t : ∀ k : Fin 256, lo8 (Int32.ofNat k.val) &&& 255 = Int32.ofNat k.val := by decide +kernel
  rw [Int32.lt_iff_toInt_lt] at h0 h1
  have e0 : (0 : Int32).toInt = 0 := rfl
  have e1 : (255 : Int32).toInt = 255 := rfl
  obtain ⟨k, hk⟩ : ∃ k : Nat, x.toInt = k := ⟨x.toInt.toNat, by omega⟩
  have hx : x = Int32.ofNat k := Int32.toInt_inj.mp (by rw [hk, Int32.toInt_ofNat_small (by omega)])
  rw [hx]
  exact t ⟨k, by omega⟩
end StrChars
namespace StrChars.Road
open Jvm Sem ClassFile Op Lib Jvm.Stand Jvm.Free Jvm.Free.XT
open Jvm.Lib.Cold (StaticIs)
abbrev ST : String := "java/lang/String"
/-- every table word that New1's law asks, flat -/
abbrev words : List Jvm.Cond := [.code New1.yN New1.yB 2 none, .initialized ST, .methodLink ST 27 New4.yN, .instanceMethod New4.yN,
  .code New4.yN New4.yB 6 none, .fieldLink ST 38 ST "COMPACT_STRINGS" "Z", .laysFinal ST ST "value" "[B", .fieldLink ST 9 ST "value" "[B", .laysFinal ST ST "coder" "B", .fieldLink ST 15 ST "coder" "B",
  .methodLink ST 1 Lib.objectInit, .instanceMethod Lib.objectInit, .code Lib.objectInit ⟨#[0xb1]⟩ 1 none, .methodLink ST 177 Cmp3.yN, .static Cmp3.yN, .methodLink ST 47 CodL.yN, .static CodL.yN,
  .code Cmp3.yN Cmp3.yB 6 (some (.array .byte)), .initialized U16, .arrayClass .byte, .methodLink U16 115 Cmp5.yN, .static Cmp5.yN, .code Cmp5.yN Cmp5.yB 7 (some .int), .code CodL.yN CodL.yB 2 (some .byte)]
theorem tab_of {a : Array Value} {s : State} (h : ∀ w ∈ words, w.before a s = true) : New1.tab.before a s = true := by
  have h5 : Cmp5.tab.before a s = true := unparts (wk h (.code Cmp5.yN Cmp5.yB 7 (some .int))) (wks h (.initialized Cmp5.yN.cls :: Cmp5.site))
  have hc : CodL.tab.before a s = true := unparts (wk h (.code CodL.yN CodL.yB 2 (some .byte))) (wks h (.initialized CodL.yN.cls :: CodL.site))
  have q5 : ∀ w ∈ Cmp5.tab :: words, w.before a s = true := fun w hw => (List.mem_cons.mp hw).elim (fun e => e ▸ h5) (h w)
  have h3 : Cmp3.tab.before a s = true := unparts (wk q5 (.code Cmp3.yN Cmp3.yB 6 (some (.array .byte)))) (wks q5 (.initialized Cmp3.yN.cls :: Cmp3.site))
  have q3 : ∀ w ∈ Cmp3.tab :: CodL.tab :: words, w.before a s = true := fun w hw => (List.mem_cons.mp hw).elim (fun e => e ▸ h3) fun hw => (List.mem_cons.mp hw).elim (fun e => e ▸ hc) (h w)
  have h4 : New4.tab.before a s = true := unparts (wk q3 (.code New4.yN New4.yB 6 none)) (wks q3 (.initialized New4.yN.cls :: New4.site))
  have q4 : ∀ w ∈ New4.tab :: words, w.before a s = true := fun w hw => (List.mem_cons.mp hw).elim (fun e => e ▸ h4) (h w)
  exact unparts (wk q4 (.code New1.yN New1.yB 2 none)) (wks q4 (.initialized New1.yN.cls :: New1.site))
/-- the words ride from the start Z to the walk's own state -/
theorem moved {Z s : State} {a0 args : Array Value} (hZ : Z.Warmed39 s.vm) (hw : ∀ d ∈ words, d.before a0 Z = true) : ∀ d ∈ words, d.before args s = true := fun d hd => by
  have q := hw d hd
  have t : ∀ d ∈ words, d = .arrayClass .byte ∨ (d.onTables && d.keepsFace) = true := by decide +kernel
  rcases t d hd with rfl | t
  · exact RoadKit.mvA hZ q
  · exact RoadKit.mv hZ q t
/-- WHAT COMES BACK, over the tables of the start Z: h the heap at the call, h' behind it -/
def Q (Z : State) (x : Addr) (A : Cell) (h : Heap) (v : Option Value) (h' : Heap) (L : List Loc) : Prop := v = none ∧ (∀ y ∈ L, y.base = x) ∧ RoadKit.Keep h h' [x] ∧ h'.size = h.size + 1 ∧ RoadKit.Exa Z h' x ST ∧ RoadKit.Fld Z h' x ST "value" "[B" (.ref h.size) ∧ RoadKit.Fld Z h' x ST "coder" "B" (.int 0) ∧
  (∃ V : Cell, RoadKit.Arr Z h' h.size V .byte ∧ V.vm = .none ∧ Z.vm.findClass "[B" = some V.cls ∧ V.slots.size = A.slots.size ∧ ∀ j, j < A.slots.size → V.slots[j]? = some (.int (lo8 (cv A j)))) ∧
  ∀ (O n d : String) (w : Value), RoadKit.Fld Z h x O n d w → RoadKit.slotOf Z O n d ≠ RoadKit.slotOf Z ST "value" "[B" → RoadKit.slotOf Z O n d ≠ RoadKit.slotOf Z ST "coder" "B" → RoadKit.Fld Z h' x O n d w
/-- **new String(chars) AT A CALL, IN THE ROAD'S FORM**: for specialBack behind newO: x the fresh String, b the char[] with the cell A -/
theorem back {p : Program} {l : Launch} {e : Env} {R : Room} {s : State} {args : Array Value} {below : List Frame} {len W : Nat} {Z : State} {a0 : Array Value} {h : Heap} (hZ : Z.Warmed39 s.vm) (hw : ∀ d ∈ words, d.before a0 Z = true) {kI : Nat} (wi : (Jvm.Cond.instantiable ST kI).before a0 Z = true)
    {x b : Addr} {A : Cell} {z : Int32} {v0 c0 : Value} (E : RoadKit.Exa Z h x ST) (V : RoadKit.Fld Z h x ST "value" "[B" v0) (C : RoadKit.Fld Z h x ST "coder" "B" c0) (K : RoadKit.Arr Z h b A .char) (hty : Typed .char A) (S : RoadKit.Sta Z h ST "COMPACT_STRINGS" "Z" (.int z)) (hz : ¬ z = 0)
    (l0 : 0 < A.slots.size) (l2 : A.slots.size ≤ 536870912) (hp : ∀ i, i < A.slots.size → ¬ 255 < cv A i) (hfr : 4 ≤ R.frames) (hlo : W + 65 ≤ R.locals) :
    Back l R p e below s args New1.yN len W (fun P a => a = #[.ref x, .ref b] ∧ P.U.heap = h ∧ P.cells + 1 ≤ R.cells ∧ P.slots + A.slots.size ≤ R.slots)
      (fun P _ v B => ∃ L, Q Z x A h v B.U.heap L ∧ B.locs = P.locs ++ L ∧ B.cells = P.cells + 1 ∧ B.slots = P.slots + A.slots.size) := by
  intro m meth c P g ig mk a X hg hsize hdg hW hn hp'
  obtain ⟨rfl, rfl, r1, r2⟩ := hp'
  have al : Z.vm.Alike P.U.vm := hZ.alike.trans X.warmed.alike
  obtain ⟨D, cfV, kV, iV, fV, hD, gV, stV, knV, obV, asV, slV⟩ := id V
  obtain ⟨D', cfC, kC, iC, fC, hD', gC, stC, -, -, asC, slC⟩ := id C
  cases hD.symm.trans hD'
  obtain ⟨D2, kD, e1, e2, e3, e4, e5⟩ := id E
  cases hD.symm.trans e1
  obtain ⟨c2, k2, i1, i2, i3, -⟩ := Cond.instantiable_spec wi
  cases e2.symm.trans i1
  cases e3.symm.trans i2
  obtain ⟨kU, u1, u2⟩ := al.2.2 _ _ e3
  have hB : Blank ST x D P.U := ⟨hD, ⟨knV, fun q hq => by rw [hq] at obV; cases obV⟩, by rw [al.findClass]; exact e2, kU, u1, by rw [u2]; exact i3, by rw [u2]; exact e5 i3⟩
  have F1 : Found ST "value" "[B" fV P.U := ⟨SBG.found_only al ⟨cfV, kV, iV, gV⟩, stV⟩
  have F2 : Found ST "coder" "B" fC P.U := ⟨SBG.found_only al ⟨cfC, kC, iC, gC⟩, stC⟩
  have hA : Ch b A P.U := ⟨⟨K.1, State.isArrayOf_alike al K.2.1, K.2.2, by omega⟩, hty⟩
  have hS : StaticIs P.U ST "COMPACT_STRINGS" "Z" (.int z) := by
    obtain ⟨cfS, iS, kS, fS, st, cS, t1, t2, t3, t4, t5, t6, t7⟩ := S
    exact StaticIs.there (s := { Z with heap := P.U.heap }) ⟨cfS, iS, kS, fS, st, cS, t1, t2, t3, t4, t5, (fun q => by rw [q] at t6; cases t6), t7⟩ al rfl
  obtain ⟨v, B, X', ⟨⟨hv, E', V', q1, q2, q3, q4, q5, q6, q7, q8, q9, q10, q11⟩, hl, hc, hs⟩, st⟩ := New1.pays x D fV fC b A z (tab_of (moved hZ hw)) hfr hlo m meth c P g ig mk _ X hg hsize hdg hW hn ⟨r1, r2, rfl, hB, F1, F2, hA, hS, hz, l0, l2, hp⟩
  have al' : Z.vm.Alike B.U.vm := hZ.alike.trans X'.warmed.alike
  have hsz : E'.slots.size = D.slots.size := by
    obtain ⟨-, -, -, kB, w1, w2, w3⟩ := q1
    obtain ⟨kB', y1, y2⟩ := al'.2.2 _ _ e3
    rw [q2.2.1] at w1
    cases w1.symm.trans y1
    rw [w3, e5 i3, y2]
  refine ⟨v, B, X', ⟨_, ⟨hv, ?_, ⟨by omega, fun y cy hy hn' => q10 y cy (by simpa using hn') hy, fun y cy hy => ?_⟩, q11, ⟨E', _, q1.1, by rw [q2.2.1]; exact e2, by rw [q2.2.1]; exact e3, by rw [q2.1]; exact obV, fun _ => by rw [hsz]; exact e5 i3⟩,
    ⟨E', cfV, kV, iV, fV, q1.1, gV, stV, by rw [q2.1]; exact knV, by rw [q2.1]; exact obV, by rw [q2.2.1]; exact asV, q3⟩, ⟨E', cfC, kC, iC, fC, q1.1, gC, stC, by rw [q2.1]; exact knV, by rw [q2.1]; exact obV, by rw [q2.2.1]; exact asC, q4⟩,
    ⟨V', ⟨q5.1, State.isArrayOf_alike al'.symm q5.2.1, q5.2.2.1⟩, q6, by rw [← al'.findClass]; exact q7, q8, fun j hj => by have := q9 j hj; rwa [Nat.zero_add] at this⟩, fun O n d w F n1 n2 => ?_⟩, hl, hc, hs⟩, st⟩
  · intro y hy
    simp only [List.mem_cons, List.not_mem_nil, or_false] at hy
    rcases hy with rfl | rfl <;> rfl
  · by_cases q : y = x
    · subst q
      cases hD.symm.trans hy
      exact ⟨E', q1.1, q2.2.1, q2.1, hsz⟩
    · exact ⟨cy, q10 y cy q hy, rfl, rfl, rfl⟩
  · obtain ⟨D3, cf, k, i, f, g1, g2, g3, g4, g5, g6, g7⟩ := F
    cases hD.symm.trans g1
    simp only [RoadKit.slotOf, g2, gV, gC, Option.map_some, Option.getD_some] at n1 n2
    exact ⟨E', cf, k, i, f, q1.1, g2, g3, by rw [q2.1]; exact g4, by rw [q2.1]; exact g5, by rw [q2.2.1]; exact g6, by rw [q2.2.2 f.slot (by simp [n1, n2])]; exact g7⟩
end StrChars.Road
namespace StrChars.Road
open Jvm Sem ClassFile Op Lib Jvm.Stand Jvm.Free Jvm.Free.XT
/-- WHAT COMES BACK, the byte[] as a list of values -/
def QA (Z : State) (x : Addr) (zn : Int32) (cs : List Int32) (h : Heap) (v : Option Value) (h' : Heap) (L : List Loc) : Prop := v = none ∧ (∀ y ∈ L, y.base = x) ∧ RoadKit.Keep h h' [x] ∧ h'.size = h.size + 1 ∧ RoadKit.Exa Z h' x ST ∧ RoadKit.Fld Z h' x ST "value" "[B" (.ref h.size) ∧ RoadKit.Fld Z h' x ST "coder" "B" (.int 0) ∧
  (∃ kb, Z.vm.findClass "[B" = some kb ∧ RoadKit.Arv Z h' h.size kb .byte zn (cs.map fun c => .int (lo8 c)) (.int 0)) ∧
  ∀ (O n d : String) (w : Value), RoadKit.Fld Z h x O n d w → RoadKit.slotOf Z O n d ≠ RoadKit.slotOf Z ST "value" "[B" → RoadKit.slotOf Z O n d ≠ RoadKit.slotOf Z ST "coder" "B" → RoadKit.Fld Z h' x O n d w
/-- **new String(chars) AT A CALL, THE ARRAYS AS LISTS**: the char[] at b holds cs, not empty, no char above 255 -/
theorem backArv {p : Program} {l : Launch} {e : Env} {R : Room} {s : State} {args : Array Value} {below : List Frame} {len W : Nat} {Z : State} {a0 : Array Value} {h : Heap} (hZ : Z.Warmed39 s.vm) (hw : ∀ d ∈ words, d.before a0 Z = true) {kI : Nat} (wi : (Jvm.Cond.instantiable ST kI).before a0 Z = true)
    {x b : Addr} {k : ClassId} {zn z : Int32} {cs : List Int32} {dv v0 c0 : Value} (E : RoadKit.Exa Z h x ST) (V : RoadKit.Fld Z h x ST "value" "[B" v0) (C : RoadKit.Fld Z h x ST "coder" "B" c0) (K : RoadKit.Arv Z h b k .char zn (cs.map Value.int) dv) (S : RoadKit.Sta Z h ST "COMPACT_STRINGS" "Z" (.int z)) (hz : ¬ z = 0)
    (hlen : zn.toNatClampNeg = cs.length) (h0 : 0 < cs.length) (hbig : cs.length ≤ 536870912) (hall : ∀ c ∈ cs, ¬ 255 < c) (hfr : 4 ≤ R.frames) (hlo : W + 65 ≤ R.locals) :
    Back l R p e below s args New1.yN len W (fun P a => a = #[.ref x, .ref b] ∧ P.U.heap = h ∧ P.cells + 1 ≤ R.cells ∧ P.slots + cs.length ≤ R.slots)
      (fun P _ v B => ∃ L, QA Z x zn cs h v B.U.heap L ∧ B.locs = P.locs ++ L ∧ B.cells = P.cells + 1 ∧ B.slots = P.slots + cs.length) := by
  obtain ⟨A, K1, K2, K3, K4, K5, K6⟩ := K
  have e : A.slots.size = cs.length := K3.trans hlen
  have hat : ∀ (i : Nat) (hi : i < cs.length), A.slots[i]? = some (.int cs[i]) := fun i hi => by rw [K5 i (by omega)]; simp [List.getD_eq_getElem?_getD, hi]
  have hcv : ∀ (i : Nat) (hi : i < cs.length), cv A i = cs[i] := fun i hi => by unfold cv; rw [hat i hi]
  have hty : Typed .char A := fun i v hv => by
    have hi : i < A.slots.size := (Array.getElem?_eq_some_iff.mp hv).1
    have q := K5 i hi
    rw [hv] at q
    rw [Option.some.inj q]
    exact K6 i hi
  refine Back.mono (back hZ hw wi E V C K1 hty S hz (by omega) (by omega) (fun i hi => by rw [hcv i (by omega)]; exact hall _ (List.getElem_mem _)) hfr hlo) (fun P a hp => ⟨hp.1, hp.2.1, hp.2.2.1, by rw [e]; exact hp.2.2.2⟩) (fun P a v B hp hq => ?_)
  obtain ⟨L, ⟨q1, q2, q3, q4, q5, q6, q7, ⟨V', v1, v2, v3, v4, v5⟩, q9⟩, hl, hc, hs⟩ := hq
  refine ⟨L, ⟨q1, q2, q3, q4, q5, q6, q7, ⟨V'.cls, v3, V', v1, rfl, by rw [v4, e, hlen], K4, fun i hi => ?_, fun i hi => ?_⟩, q9⟩, hl, hc, by rw [hs, e]⟩
  · have hi' : i < cs.length := by omega
    rw [v5 i (by omega), hcv i hi']; simp [List.getD_eq_getElem?_getD, hi']
  · have hi' : i < cs.length := by omega
    simp only [List.getD_eq_getElem?_getD, List.getElem?_map, List.getElem?_eq_getElem hi', Option.map_some, Option.getD_some]
    exact fits_lo8 _
end StrChars.Road
namespace StrChars.Road
open Jvm Sem ClassFile Op Lib Jvm.Stand Jvm.Free Jvm.Free.XT
/-- WHAT COMES BACK, in the writer's own shape -/
def QV (Z : State) (x : Addr) (N : Int32) (bs : List Int32) (h : Heap) (n0 : Nat) (v : Option Value) (h' : Heap) (L : List Loc) : Prop := v = none ∧ RoadKit.Fr n0 L ∧ RoadKit.Keep h h' [x] ∧ RoadKit.Exa Z h' x ST ∧ RoadKit.Fld Z h' x ST "coder" "B" (.int 0) ∧
  ∃ (t : Addr) (kb : ClassId), n0 ≤ t ∧ h.size ≤ t ∧ ¬ t = x ∧ RoadKit.Fld Z h' x ST "value" "[B" (.ref t) ∧ RoadKit.Arv Z h' t kb .byte N (bs.map Value.int) (.int 0)
/-- **new String(chars) AT A CALL, FOR THE WRITER**: a char[] of n known ints, each 0 to 255 -/
theorem backV {p : Program} {l : Launch} {e : Env} {R : Room} {s : State} {args : Array Value} {below : List Frame} {len W : Nat} {Z : State} {a0 : Array Value} {h : Heap} (hZ : Z.Warmed39 s.vm) (hw : ∀ d ∈ words, d.before a0 Z = true) {kI : Nat} (wi : (Jvm.Cond.instantiable ST kI).before a0 Z = true)
    {x b : Addr} {kC : ClassId} {cs bs : List Int32} {d v0 c0 : Value} {z N : Int32} {n n0 : Nat} (hx0 : n0 ≤ x) (hh0 : n0 ≤ h.size) (E : RoadKit.Exa Z h x ST) (V : RoadKit.Fld Z h x ST "value" "[B" v0) (C : RoadKit.Fld Z h x ST "coder" "B" c0) (K : RoadKit.Arv Z h b kC .char N (cs.map Value.int) d) (S : RoadKit.Sta Z h ST "COMPACT_STRINGS" "Z" (.int z)) (hz : ¬ z = 0)
    (hn : cs.length = n) (hN : N = Int32.ofNat n) (l0 : 0 < n) (l2 : n ≤ 4000) (hp : ∀ c ∈ cs, ¬ c < 0 ∧ ¬ (255 : Int32) < c) (hb : bs = cs.map (fun c => c.toInt8.toInt32)) (hfr : 4 ≤ R.frames) (hlo : W + 65 ≤ R.locals) :
    Back l R p e below s args (⟨"java/lang/String", "<init>", "([C)V"⟩ : MethodName) len W (fun P a => a = #[.ref x, .ref b] ∧ P.U.heap = h ∧ P.cells + 1 ≤ R.cells ∧ P.slots + n ≤ R.slots)
      (fun P _ v B => ∃ L, QV Z x N bs h n0 v B.U.heap L ∧ B.locs = P.locs ++ L ∧ B.cells = P.cells + 1 ∧ B.slots = P.slots + n) := by
  subst hn hN hb
  refine Back.mono (backArv hZ hw wi E V C K S hz (n32 (by omega)) l0 (by omega) (fun c hc => (hp c hc).2) hfr hlo) (fun P a hp => hp) (fun P a v B hp hq => ?_)
  obtain ⟨L, ⟨q1, q2, q3, q4, q5, q6, q7, ⟨kb, v1, v2⟩, q9⟩, hl, hc, hs⟩ := hq
  exact ⟨L, ⟨q1, fun y hy => by rw [q2 y hy]; exact hx0, q3, q5, q7, h.size, kb, hh0, Nat.le_refl _, Nat.ne_of_gt E.lt, q6, by rw [List.map_map]; exact v2⟩, hl, hc, hs⟩
end StrChars.Road
namespace StrChars
open Jvm Sem ClassFile Op Lib Jvm.Stand Jvm.Free.XT Jvm.Free.ALB Jvm.Free.JM Jvm.Free
open Jvm.Lib.Cold (StaticIs)
def hi8 (x : Int32) : Int32 := lo8 (x >>> ((8 : Int32) &&& 31))
/-- what StringUTF16.getChar makes of two bytes -/
def pairCh (u v : Int32) : Int32 := (((u &&& 255) <<< ((0 : Int32) &&& 31)) ||| ((v &&& 255) <<< ((8 : Int32) &&& 31))).toUInt32.toUInt16.toUInt32.toInt32
theorem lo8_and (x : Int32) : (lo8 x &&& 255).toBitVec.toNat = x.toBitVec.toNat % 256 := by
  have h : (lo8 x).toBitVec = (x.toBitVec.signExtend 8).signExtend 32 := by rw [lo8, Int8.toBitVec_toInt32, Int32.toBitVec_toInt8]
  rw [Int32.toBitVec_and, BitVec.toNat_and, h]
  have e : ((x.toBitVec.signExtend 8).signExtend 32).toNat % 256 = x.toBitVec.toNat % 256 := by
    rw [BitVec.toNat_signExtend]
    have hlt := x.toBitVec.isLt
    simp only [BitVec.toNat_setWidth, BitVec.toNat_signExtend]
    split <;> split <;> omega
  rw [← e]
  exact Nat.and_two_pow_sub_one_eq_mod _ 8
theorem pair_says {c : Int32} (h0 : ¬ c < 0) (h1 : ¬ 65535 < c) : pairCh (lo8 c) (hi8 c) = c := by
  rw [Int32.lt_iff_toInt_lt] at h0 h1
  have e0 : (0 : Int32).toInt = 0 := rfl
  have e1 : (65535 : Int32).toInt = 65535 := rfl
  have hc : c.toInt = c.toBitVec.toNat := by
    have := c.toBitVec.isLt
    have e : c.toInt = c.toBitVec.toInt := rfl
    rw [e] at h0 h1
    rw [e]
    rw [BitVec.toInt_eq_toNat_cond] at h0 h1 ⊢
    split at h0 <;> split <;> omega
  have hn : c.toBitVec.toNat < 65536 := by omega
  have a1 := lo8_and c
  have a2 : (hi8 c &&& 255).toBitVec.toNat = c.toBitVec.toNat / 256 := by
    rw [hi8, lo8_and]
    have e : ((8 : Int32) &&& 31) = 8 := by decide
    rw [e, Int32.toBitVec_shiftRight]
    have e2 : ((8 : Int32).toBitVec.smod 32) = 8#32 := by decide
    rw [e2, BitVec.sshiftRight_eq', BitVec.toNat_sshiftRight_of_msb_false (by rw [BitVec.msb_eq_false_iff_two_mul_lt]; omega)]
    show c.toBitVec.toNat >>> 8 % 256 = _
    rw [Nat.shiftRight_eq_div_pow]
    omega
  unfold pairCh
  apply Int32.toBitVec_inj.mp
  apply BitVec.eq_of_toNat_eq
  have f0 : ((0 : Int32) &&& 31) = 0 := by decide
  have f8 : ((8 : Int32) &&& 31) = 8 := by decide
  rw [f0, f8]
  have g : (((lo8 c &&& 255) <<< (0 : Int32)) ||| ((hi8 c &&& 255) <<< (8 : Int32))).toBitVec.toNat = c.toBitVec.toNat := by
    rw [Int32.toBitVec_or, Int32.toBitVec_shiftLeft, Int32.toBitVec_shiftLeft]
    have s0 : ((0 : Int32).toBitVec.smod 32) = 0#32 := by decide
    have s8 : ((8 : Int32).toBitVec.smod 32) = 8#32 := by decide
    rw [s0, s8, BitVec.toNat_or]
    simp only [BitVec.shiftLeft_eq', BitVec.toNat_shiftLeft, a1, a2]
    show (c.toBitVec.toNat % 256) <<< 0 % 2 ^ 32 ||| (c.toBitVec.toNat / 256) <<< 8 % 2 ^ 32 = _
    rw [Nat.shiftLeft_zero, Nat.mod_eq_of_lt (show c.toBitVec.toNat % 256 < 2 ^ 32 by omega), Nat.mod_eq_of_lt (show (c.toBitVec.toNat / 256) <<< 8 < 2 ^ 32 by rw [Nat.shiftLeft_eq]; omega), Nat.or_comm, ← Nat.shiftLeft_add_eq_or_of_lt (by omega), Nat.shiftLeft_eq]
    omega
  show BitVec.toNat (((((lo8 c &&& 255) <<< (0 : Int32)) ||| ((hi8 c &&& 255) <<< (8 : Int32))).toBitVec.setWidth 16).setWidth 32) = _
  rw [BitVec.toNat_setWidth, BitVec.toNat_setWidth, g]
  omega
end StrChars
namespace StrChars
open Jvm Sem ClassFile Op Lib Jvm.Stand Jvm.Free.XT Jvm.Free.ALB Jvm.Free.JM Jvm.Free
open Jvm.Lib.Cold (StaticIs)
/-- the array's cell V codes the n chars f 0 .. f (n - 1) by the coder cd, as the JDK does: coder 1 just where some char is above 255 -/
def Cod (cd : Int32) (n : Nat) (f : Nat → Int32) (V : Cell) : Prop := (cd = 0 ∧ V.slots.size = n ∧ ∀ j, j < n → V.slots[j]? = some (.int (lo8 (f j))) ∧ ¬ 255 < f j) ∨ (cd = 1 ∧ V.slots.size = 2 * n ∧ (∀ j, j < n → V.slots[2 * j]? = some (.int (lo8 (f j))) ∧ V.slots[2 * j + 1]? = some (.int (hi8 (f j)))) ∧ ∃ j, j < n ∧ 255 < f j)
/-- **x is a String of the n chars f 0 .. f (n - 1)**, Latin-1 or UTF-16; its array at t has the cell V -/
def Txt (x t : Addr) (V : Cell) (cd : Int32) (n : Nat) (f : Nat → Int32) (U : State) : Prop := Exact "java/lang/String" x U ∧ Has x "java/lang/String" "value" "[B" (.ref t) U ∧ Has x "java/lang/String" "coder" "B" (.int cd) U ∧ XT.Arr .byte t V U ∧ Cod cd n f V ∧ ∀ j, j < n → ¬ f j < 0 ∧ ¬ 65535 < f j
theorem Txt.mv {x t : Addr} {V : Cell} {cd : Int32} {n : Nat} {f : Nat → Int32} {U U' : State} (h : Txt x t V cd n f U) (hal : U.vm.Alike U'.vm) (hh : U'.heap = U.heap) : Txt x t V cd n f U' := ⟨h.1.mv hal hh, h.2.1.mv hal hh, h.2.2.1.mv hal hh, h.2.2.2.1.mv hal hh, h.2.2.2.2⟩
end StrChars
namespace StrChars.Road
open Jvm Sem ClassFile Op Lib Jvm.Stand Jvm.Free Jvm.Free.XT
open Jvm.Lib.Cold (StaticIs)
theorem consq {a : Array Value} {s : State} {c : Jvm.Cond} {L : List Jvm.Cond} (h0 : c.before a s = true) (h : ∀ w ∈ L, w.before a s = true) : ∀ w ∈ c :: L, w.before a s = true := fun w hw => (List.mem_cons.mp hw).elim (fun e => e ▸ h0) (h w)
/-- the bytes of the chars cs, low before high -/
def wideBytes : List Int32 → List Value
  | [] => []
  | c :: cs => .int (lo8 c) :: .int (hi8 c) :: wideBytes cs
theorem wide_lo (d : Value) : ∀ (cs : List Int32) (j : Nat), j < cs.length → (wideBytes cs).getD (2 * j) d = .int (lo8 (cs.getD j 0))
  | [], j, h => absurd h (Nat.not_lt_zero j)
  | c :: cs, 0, _ => rfl
  | c :: cs, j + 1, h => by
    have q := wide_lo d cs j (by simpa using h)
    rw [show 2 * (j + 1) = 2 * j + 1 + 1 from by omega]
    simpa [wideBytes] using q
theorem wide_hi (d : Value) : ∀ (cs : List Int32) (j : Nat), j < cs.length → (wideBytes cs).getD (2 * j + 1) d = .int (hi8 (cs.getD j 0))
  | [], j, h => absurd h (Nat.not_lt_zero j)
  | c :: cs, 0, _ => rfl
  | c :: cs, j + 1, h => by
    have q := wide_hi d cs j (by simpa using h)
    rw [show 2 * (j + 1) + 1 = 2 * j + 1 + 1 + 1 from by omega]
    simpa [wideBytes] using q
theorem low_at (d : Value) (cs : List Int32) (j : Nat) (h : j < cs.length) : (cs.map fun c => Value.int (lo8 c)).getD j d = .int (lo8 (cs.getD j 0)) := by
  simp [List.getD_eq_getElem?_getD, h]
/-- an array of N2 bytes vs codes the chars cs by the coder cd -/
def CodA (cs : List Int32) (cd N2 : Int32) (vs : List Value) : Prop := (cd = 0 ∧ N2 = Int32.ofNat cs.length ∧ vs = (cs.map fun c => Value.int (lo8 c)) ∧ ∀ c ∈ cs, ¬ 255 < c) ∨ (cd = 1 ∧ N2 = Int32.ofNat (2 * cs.length) ∧ vs = wideBytes cs ∧ ∃ c ∈ cs, 255 < c)
theorem CodA.cod {cs : List Int32} {cd N2 : Int32} {vs : List Value} {V : Cell} (h : CodA cs cd N2 vs) (hn : 2 * cs.length < 2 ^ 31) (hs : V.slots.size = N2.toNatClampNeg) (hv : RoadKit.Has V vs (.int 0)) : Cod cd cs.length (fun j => cs.getD j 0) V := by
  rcases h with ⟨rfl, rfl, rfl, h⟩ | ⟨rfl, rfl, rfl, c, hc, hw⟩
  · rw [n32 (by omega)] at hs
    exact Or.inl ⟨rfl, hs, fun j hj => ⟨by rw [hv j (by omega), low_at _ _ _ hj], by
      have e : cs.getD j 0 = cs[j] := by simp [List.getD_eq_getElem?_getD, hj]
      show ¬ 255 < cs.getD j 0
      rw [e]; exact h _ (List.getElem_mem _)⟩⟩
  · rw [n32 (by omega)] at hs
    obtain ⟨j, hj, rfl⟩ := List.getElem_of_mem hc
    exact Or.inr ⟨rfl, hs, fun j hj => ⟨by rw [hv _ (by omega), wide_lo _ _ _ hj], by rw [hv _ (by omega), wide_hi _ _ _ hj]⟩, j, hj, by
      have e : cs.getD j 0 = cs[j] := by simp [List.getD_eq_getElem?_getD, hj]
      show 255 < cs.getD j 0
      rw [e]; exact hw⟩
/-- an object of exactly java/lang/String, its two fields found: as the laws ask it -/
theorem strObj {Z U : State} {a0 : Array Value} {kI : Nat} (wi : (Jvm.Cond.instantiable ST kI).before a0 Z = true) (al : Z.vm.Alike U.vm) {x : Addr} {v0 c0 : Value} (E : RoadKit.Exa Z U.heap x ST) (V : RoadKit.Fld Z U.heap x ST "value" "[B" v0) (C : RoadKit.Fld Z U.heap x ST "coder" "B" c0) :
    ∃ (D : Cell) (fV fC : Field), Blank ST x D U ∧ Found ST "value" "[B" fV U ∧ Found ST "coder" "B" fC U ∧ D.slots[fV.slot]? = some v0 ∧ D.slots[fC.slot]? = some c0 ∧ RoadKit.slotOf Z ST "value" "[B" = fV.slot ∧ RoadKit.slotOf Z ST "coder" "B" = fC.slot := by
  obtain ⟨D, cfV, kV, iV, fV, hD, gV, stV, knV, obV, asV, slV⟩ := V
  obtain ⟨D', cfC, kC, iC, fC, hD', gC, stC, -, -, asC, slC⟩ := C
  cases hD.symm.trans hD'
  obtain ⟨D2, kD, e1, e2, e3, e4, e5⟩ := E
  cases hD.symm.trans e1
  obtain ⟨c2, k2, i1, i2, i3, -⟩ := Cond.instantiable_spec wi
  cases e2.symm.trans i1
  cases e3.symm.trans i2
  obtain ⟨kU, u1, u2⟩ := al.2.2 _ _ e3
  exact ⟨D, fV, fC, ⟨hD, ⟨knV, fun q hq => by rw [hq] at obV; cases obV⟩, by rw [al.findClass]; exact e2, kU, u1, by rw [u2]; exact i3, by rw [u2]; exact e5 i3⟩, ⟨SBG.found_only al ⟨cfV, kV, iV, gV⟩, stV⟩, ⟨SBG.found_only al ⟨cfC, kC, iC, gC⟩, stC⟩, slV, slC, by simp [RoadKit.slotOf, gV], by simp [RoadKit.slotOf, gC]⟩
theorem sta_is {Z U : State} (al : Z.vm.Alike U.vm) {C n d : String} {v : Value} (S : RoadKit.Sta Z U.heap C n d v) : StaticIs U C n d v := by
  obtain ⟨cfS, iS, kS, fS, st, cS, t1, t2, t3, t4, t5, t6, t7⟩ := S
  exact StaticIs.there (s := { Z with heap := U.heap }) ⟨cfS, iS, kS, fS, st, cS, t1, t2, t3, t4, t5, (fun q => by rw [q] at t6; cases t6), t7⟩ al rfl
end StrChars.Road
namespace StrChars
open Jvm Sem ClassFile Op Lib Jvm.Stand Jvm.Free.XT Jvm.Free.ALB Jvm.Free.JM Jvm.Free
open Jvm.Lib.Cold (StaticIs)
/-- what place i of a byte[]'s cell holds -/
def yv (A : Cell) (i : Nat) : Int32 := match A.slots[i]? with | some (.int x) => x | _ => 0
theorem yv_get {a : Addr} {A : Cell} {U : State} (h : XT.Arr .byte a A U) (ht : Typed .byte A) {i : Nat} (hi : i < A.slots.size) : A.slots[i]? = some (.int (yv A i)) := by
  have e := Array.getElem?_eq_getElem hi
  have f := ht i _ e
  unfold yv; rw [e]
  generalize A.slots[i] = v at f
  cases v <;> simp [fits] at f ⊢
/-- the two arrays are equal, place for place -/
def EqC (A B : Cell) : Prop := A.slots.size = B.slots.size ∧ ∀ i, i < A.slots.size → yv A i = yv B i
/-- a boolean that says whether p -/
def Says01 (q : Prop) (r : Option Value) (s u : State) : Prop := ∃ v : Int32, r = some (.int v) ∧ u.heap = s.heap ∧ ((v = 1 ∧ q) ∨ (v = 0 ∧ ¬ q))
theorem Says01.mv {q : Prop} : ∀ r (U U' V V' : State), U'.heap = U.heap → V.vm.Alike V'.vm → V'.heap = V.heap → Says01 q r U V → Says01 q r U' V' :=
  fun r U U' V V' h1 _ h2 ⟨v, a, b, c⟩ => ⟨v, a, by rw [h1, h2]; exact b, c⟩
namespace LEq
def yN : MethodName := ⟨"java/lang/StringLatin1", "equals", "([B[B)Z"⟩
abbrev yB : ByteArray := jdk_43_method_13_code
theorem d0 : decode yB 0 = .ok (.aload_n 0, 1) := by decide +kernel
theorem d1 : decode yB 1 = .ok (.arraylength, 1) := by decide +kernel
theorem d2 : decode yB 2 = .ok (.aload_n 1, 1) := by decide +kernel
theorem d3 : decode yB 3 = .ok (.arraylength, 1) := by decide +kernel
theorem d4 : decode yB 4 = .ok (.if_icmp (.ne) 30, 3) := by decide +kernel
theorem d7 : decode yB 7 = .ok (.iconst 0, 1) := by decide +kernel
theorem d8 : decode yB 8 = .ok (.istore_n 2, 1) := by decide +kernel
theorem d9 : decode yB 9 = .ok (.iload_n 2, 1) := by decide +kernel
theorem d10 : decode yB 10 = .ok (.aload_n 0, 1) := by decide +kernel
theorem d11 : decode yB 11 = .ok (.arraylength, 1) := by decide +kernel
theorem d12 : decode yB 12 = .ok (.if_icmp (.ge) 20, 3) := by decide +kernel
theorem d15 : decode yB 15 = .ok (.aload_n 0, 1) := by decide +kernel
theorem d16 : decode yB 16 = .ok (.iload_n 2, 1) := by decide +kernel
theorem d17 : decode yB 17 = .ok (.baload, 1) := by decide +kernel
theorem d18 : decode yB 18 = .ok (.aload_n 1, 1) := by decide +kernel
theorem d19 : decode yB 19 = .ok (.iload_n 2, 1) := by decide +kernel
theorem d20 : decode yB 20 = .ok (.baload, 1) := by decide +kernel
theorem d21 : decode yB 21 = .ok (.if_icmp (.eq) 5, 3) := by decide +kernel
theorem d24 : decode yB 24 = .ok (.iconst 0, 1) := by decide +kernel
theorem d25 : decode yB 25 = .ok (.ireturn, 1) := by decide +kernel
theorem d26 : decode yB 26 = .ok (.iinc 2 1, 3) := by decide +kernel
theorem d29 : decode yB 29 = .ok (.goto (-20), 3) := by decide +kernel
theorem d32 : decode yB 32 = .ok (.iconst 1, 1) := by decide +kernel
theorem d33 : decode yB 33 = .ok (.ireturn, 1) := by decide +kernel
theorem d34 : decode yB 34 = .ok (.iconst 0, 1) := by decide +kernel
theorem d35 : decode yB 35 = .ok (.ireturn, 1) := by decide +kernel
def site : List Cond := []
def tab : Cond := tabOf yN yB 3 (some .boolean) site
def P (a : Addr) (A : Cell) (b : Addr) (B : Cell) (args : Array Value) (s : State) : Prop := args = #[.ref a, .ref b] ∧ XT.Arr .byte a A s ∧ Typed .byte A ∧ XT.Arr .byte b B s ∧ Typed .byte B
/-- whether two byte[] are equal, place for place -/
theorem law (l : Launch) (a : Addr) (A : Cell) (b : Addr) (B : Cell) : Law l yN 2 2 0 0 yB 3 (some .boolean) site (P a A b B) (Says01 (EqC A B)) [] 0 0 := by
  refine Law.of_walk (plainFor_of_name (by decide +kernel)) (by decide +kernel) (by decide +kernel) (by decide) (fun _ _ h => by rw [h.1]; rfl) (fun _ U U' hal hh h => ⟨h.1, h.2.1.mv hal hh, h.2.2.1, h.2.2.2.1.mv hal hh, h.2.2.2.2⟩) (fun r U U' V V' h1 hal h2 h => Says01.mv r U U' V V' h1 hal h2 h) ?_
  intro p e s m args below meth c s₁ X0 hexec hbytes hml hret hlk hnm hown hh0 W hP
  obtain ⟨rfl, hA, tA, hB, tB⟩ := hP
  have a31 := hA.2.2.2
  have b31 := hB.2.2.2
  have hA0 := hA.mv X0.warmed.alike hh0
  have hB0 := hB.mv X0.warmed.alike hh0
  have c1 : Steps p.tables e below (s₁.setTop (entryFrame m #[.ref a, .ref b] 3)) (s₁.setTop (mkF m 0 #[.val (.ref a), .val (.ref b), .unset] [])) := entry rfl
  have c2 : Steps p.tables e below (s₁.setTop (entryFrame m #[.ref a, .ref b] 3)) (s₁.setTop (mkF m 4 #[.val (.ref a), .val (.ref b), .unset] [.int (Int32.ofNat B.slots.size), .int (Int32.ofNat A.slots.size)])) := c1.trans (by
    refine XS.aloadN X0.here hexec rfl (hb hbytes d0) rfl rfl ?_
    refine X0.alen hexec hA0 rfl rfl (hb hbytes d1) ?_
    refine XS.aloadN X0.here hexec rfl (hb hbytes d2) rfl rfl ?_
    refine X0.alen hexec hB0 rfl rfl (hb hbytes d3) ?_
    exact Steps.refl _)
  by_cases hs : A.slots.size = B.slots.size
  · have c3 : Steps p.tables e below (s₁.setTop (entryFrame m #[.ref a, .ref b] 3)) (s₁.setTop (mkF m 9 #[.val (.ref a), .val (.ref b), .val (.int 0)] [])) := c2.trans (by
      refine XS.icmpNo X0.here hexec rfl (hb hbytes d4) rfl (ii_ne_f (by rw [hs])) ?_
      refine iconstV X0.here hexec rfl 0 (hb hbytes d7) (by decide) ?_
      refine XS.istoreN X0.here hexec rfl (hb hbytes d8) rfl rfl ?_
      exact Steps.refl _)
    have loop : ∀ (r i : Nat), i + r = A.slots.size → (∀ j, j < i → yv A j = yv B j) → Steps p.tables e below (s₁.setTop (entryFrame m #[.ref a, .ref b] 3)) (s₁.setTop (mkF m 9 #[.val (.ref a), .val (.ref b), .val (.int (Int32.ofNat i))] [])) → ∃ (pc : Nat) (Ls : Array Slot) (v : Int32), (pc = 25 ∨ pc = 33) ∧ ((v = 1 ∧ EqC A B) ∨ (v = 0 ∧ ¬ EqC A B)) ∧ Steps p.tables e below (s₁.setTop (entryFrame m #[.ref a, .ref b] 3)) (s₁.setTop (mkF m pc Ls [.int v])) := by
      intro r
      induction r with
      | zero =>
        intro i hi he cl
        exact ⟨33, _, 1, Or.inr rfl, Or.inl ⟨rfl, hs, fun j hj => he j (by omega)⟩, cl.trans (by
          refine XS.iloadN X0.here hexec rfl (hb hbytes d9) rfl ?_
          refine XS.aloadN X0.here hexec rfl (hb hbytes d10) rfl rfl ?_
          refine X0.alen hexec hA0 rfl rfl (hb hbytes d11) ?_
          refine XS.icmpYes X0.here hexec rfl (pc0 := 12) rfl (hb hbytes d12) rfl (ii_ge_t (nlt32 (by omega) (by omega))) (by decide) rfl ?_
          refine iconstV X0.here hexec rfl 1 (hb hbytes d32) (by decide) ?_
          exact Steps.refl _)⟩
      | succ r ih =>
        intro i hi he cl
        have c4 : Steps p.tables e below (s₁.setTop (entryFrame m #[.ref a, .ref b] 3)) (s₁.setTop (mkF m 21 #[.val (.ref a), .val (.ref b), .val (.int (Int32.ofNat i))] [.int (yv B i), .int (yv A i)])) := cl.trans (by
          refine XS.iloadN X0.here hexec rfl (hb hbytes d9) rfl ?_
          refine XS.aloadN X0.here hexec rfl (hb hbytes d10) rfl rfl ?_
          refine X0.alen hexec hA0 rfl rfl (hb hbytes d11) ?_
          refine XS.icmpNo X0.here hexec rfl (hb hbytes d12) rfl (ii_ge_f (lt32 (by omega) (by omega))) ?_
          refine XS.aloadN X0.here hexec rfl (hb hbytes d15) rfl rfl ?_
          refine XS.iloadN X0.here hexec rfl (hb hbytes d16) rfl ?_
          refine X0.aget hexec hA0 rfl (yv_get hA tA (i := i) (by omega)) rfl rfl (hb hbytes d17) ?_
          refine XS.aloadN X0.here hexec rfl (hb hbytes d18) rfl rfl ?_
          refine XS.iloadN X0.here hexec rfl (hb hbytes d19) rfl ?_
          refine X0.aget hexec hB0 rfl (yv_get hB tB (i := i) (by omega)) rfl rfl (hb hbytes d20) ?_
          exact Steps.refl _)
        by_cases hv : yv A i = yv B i
        · have c5 : Steps p.tables e below (s₁.setTop (entryFrame m #[.ref a, .ref b] 3)) (s₁.setTop (mkF m 9 #[.val (.ref a), .val (.ref b), .val (.int (Int32.ofNat i + 1))] [])) := c4.trans (by
            refine XS.icmpYes X0.here hexec rfl (pc0 := 21) rfl (hb hbytes d21) rfl (ii_eq_t hv) (by decide) rfl ?_
            refine iincV X0.here hexec rfl 1 (hb hbytes d26) (by decide) rfl rfl ?_
            refine XS.goto X0.here hexec rfl (pc0 := 29) rfl (hb hbytes d29) (by decide) rfl ?_
            exact Steps.refl _)
          rw [succ32] at c5
          exact ih (i + 1) (by omega) (fun j hj => by
            by_cases e : j = i
            · rw [e]; exact hv
            · exact he j (by omega)) c5
        · exact ⟨25, _, 0, Or.inl rfl, Or.inr ⟨rfl, fun q => hv (q.2 i (by omega))⟩, c4.trans (by
            refine XS.icmpNo X0.here hexec rfl (hb hbytes d21) rfl (ii_eq_f hv) ?_
            refine iconstV X0.here hexec rfl 0 (hb hbytes d24) (by decide) ?_
            exact Steps.refl _)⟩
    obtain ⟨pc, Ls, v, hpc, hv, cz⟩ := loop A.slots.size 0 (by omega) (fun j hj => absurd hj (Nat.not_lt_zero j)) c3
    have nv : narrow .boolean (.int v) = .int v := by rcases hv with ⟨rfl, -⟩ | ⟨rfl, -⟩ <;> rfl
    rcases hpc with rfl | rfl
    · exact ⟨s₁, some (.int v), _, _, _, X0, rfl, rfl, rfl, (fun h => by cases h), ⟨v, rfl, hh0, hv⟩, fun fs hl => cz.trans (X0.ireturnOut hexec hret nv (Or.inr (Or.inl rfl)) (hb hbytes d25) hl)⟩
    · exact ⟨s₁, some (.int v), _, _, _, X0, rfl, rfl, rfl, (fun h => by cases h), ⟨v, rfl, hh0, hv⟩, fun fs hl => cz.trans (X0.ireturnOut hexec hret nv (Or.inr (Or.inl rfl)) (hb hbytes d33) hl)⟩
  · have c3 : Steps p.tables e below (s₁.setTop (entryFrame m #[.ref a, .ref b] 3)) (s₁.setTop (mkF m 35 #[.val (.ref a), .val (.ref b), .unset] [.int 0])) := c2.trans (by
      refine XS.icmpYes X0.here hexec rfl (pc0 := 4) rfl (hb hbytes d4) rfl (ii_ne_t (ne32 a31 b31 hs)) (by decide) rfl ?_
      refine iconstV X0.here hexec rfl 0 (hb hbytes d34) (by decide) ?_
      exact Steps.refl _)
    exact ⟨s₁, some (.int 0), _, _, _, X0, rfl, rfl, rfl, (fun h => by cases h), ⟨0, rfl, hh0, Or.inr ⟨rfl, fun q => hs q.1⟩⟩, fun fs hl => c3.trans (X0.ireturnOut hexec hret rfl (Or.inr (Or.inl rfl)) (hb hbytes d35) hl)⟩
end LEq
theorem Cod.ty {cd : Int32} {n : Nat} {f : Nat → Int32} {V : Cell} (h : Cod cd n f V) : Typed .byte V := fun i v hv => by
  have hi : i < V.slots.size := (Array.getElem?_eq_some_iff.mp hv).1
  rcases h with ⟨-, k1, k2⟩ | ⟨-, k1, k2, -⟩
  · rw [(k2 i (by omega)).1] at hv; cases hv; exact fits_lo8 _
  · rcases Nat.mod_two_eq_zero_or_one i with e | e
    · obtain ⟨j, rfl⟩ : ∃ j, i = 2 * j := ⟨i / 2, by omega⟩
      rw [(k2 j (by omega)).1] at hv; cases hv; exact fits_lo8 _
    · obtain ⟨j, rfl⟩ : ∃ j, i = 2 * j + 1 := ⟨i / 2, by omega⟩
      rw [(k2 j (by omega)).2] at hv; cases hv; exact fits_lo8 _
/-- the same text -/
def SameT (n : Nat) (f : Nat → Int32) (k : Nat) (g : Nat → Int32) : Prop := n = k ∧ ∀ j, j < n → f j = g j
theorem lo8_inj {x y : Int32} (h0 : ¬ x < 0) (h1 : ¬ 255 < x) (k0 : ¬ y < 0) (k1 : ¬ 255 < y) (h : lo8 x = lo8 y) : x = y := by
  rw [← lo8_mask h0 h1, ← lo8_mask k0 k1, h]
/-- arrays coded by one coder are equal just where the texts are -/
theorem Cod.eqv {cd : Int32} {n k : Nat} {f g : Nat → Int32} {V V' : Cell} (h : Cod cd n f V) (h' : Cod cd k g V') (hf : ∀ j, j < n → ¬ f j < 0 ∧ ¬ 65535 < f j) (hg : ∀ j, j < k → ¬ g j < 0 ∧ ¬ 65535 < g j) : EqC V V' ↔ SameT n f k g := by
  have yvv : ∀ {W : Cell} {i : Nat} {x : Int32}, W.slots[i]? = some (.int x) → yv W i = x := fun q => by unfold yv; rw [q]
  rcases h with ⟨rfl, k1, k2⟩ | ⟨rfl, k1, k2, -⟩
  · rcases h' with ⟨-, m1, m2⟩ | ⟨e, -⟩
    · constructor
      · rintro ⟨e1, e2⟩
        refine ⟨by omega, fun j hj => ?_⟩
        have q := e2 j (by omega)
        rw [yvv (k2 j hj).1, yvv (m2 j (by omega)).1] at q
        exact lo8_inj (hf j hj).1 (k2 j hj).2 (hg j (by omega)).1 (m2 j (by omega)).2 q
      · rintro ⟨rfl, e2⟩
        refine ⟨by omega, fun j hj => ?_⟩
        rw [yvv (k2 j (by omega)).1, yvv (m2 j (by omega)).1, e2 j (by omega)]
    · exact absurd e (by decide)
  · rcases h' with ⟨e, -⟩ | ⟨-, m1, m2, -⟩
    · exact absurd e (by decide)
    · constructor
      · rintro ⟨e1, e2⟩
        refine ⟨by omega, fun j hj => ?_⟩
        have q1 := e2 (2 * j) (by omega)
        have q2 := e2 (2 * j + 1) (by omega)
        rw [yvv (k2 j hj).1, yvv (m2 j (by omega)).1] at q1
        rw [yvv (k2 j hj).2, yvv (m2 j (by omega)).2] at q2
        rw [← pair_says (hf j hj).1 (hf j hj).2, ← pair_says (hg j (by omega)).1 (hg j (by omega)).2, q1, q2]
      · rintro ⟨rfl, e2⟩
        refine ⟨by omega, fun i hi => ?_⟩
        rcases Nat.mod_two_eq_zero_or_one i with e | e
        · obtain ⟨j, rfl⟩ : ∃ j, i = 2 * j := ⟨i / 2, by omega⟩
          rw [yvv (k2 j (by omega)).1, yvv (m2 j (by omega)).1, e2 j (by omega)]
        · obtain ⟨j, rfl⟩ : ∃ j, i = 2 * j + 1 := ⟨i / 2, by omega⟩
          rw [yvv (k2 j (by omega)).2, yvv (m2 j (by omega)).2, e2 j (by omega)]
/-- two codings differ: so do the texts -/
theorem Cod.dif {cd cd' : Int32} {n k : Nat} {f g : Nat → Int32} {V V' : Cell} (h : Cod cd n f V) (h' : Cod cd' k g V') (hne : ¬ cd = cd') : ¬ SameT n f k g := by
  rintro ⟨rfl, e⟩
  rcases h with ⟨rfl, -, k2⟩ | ⟨rfl, -, -, j, hj, hw⟩
  · rcases h' with ⟨rfl, -⟩ | ⟨-, -, -, j, hj, hw⟩
    · exact hne rfl
    · exact (k2 j hj).2 (by rw [e j hj]; exact hw)
  · rcases h' with ⟨-, -, m2⟩ | ⟨rfl, -⟩
    · exact (m2 j hj).2 (by rw [← e j hj]; exact hw)
    · exact hne rfl
/-- an object of exactly C is an instance of C -/
theorem cinst {p : Program} {l : Launch} {e : Env} {R : Room} {s : State} {m : MethodId} {args : Array Value} {below : List Frame} {meth : Method} {c : Code} {T : State} {locs : List Loc} {cells slots : Nat} (X : Stand p l e R s m args below meth c T locs cells slots) (hexec : p.tables.exec = Jvm.exec) {own C : String} {index : Nat} (hown : s.vm.findClass own = some m.cls) (hlink : (Cond.classLink own index C).before args s = true) {a : Addr} (hE : Exact C a T)
    {g : JFrame} (hg : g.method = m) {rest : List Value} (hstack : g.stack = .ref a :: rest) (hdg : decode c.code g.pc = .ok (.instanceof index, 3)) :
    ∃ T', Stand p l e R s m args below meth c T' locs cells slots ∧ T'.heap = T.heap ∧ ∀ target, Steps p.tables e below (T'.setTop { g with pc := g.pc + 3, stack := .int 1 :: rest }) target → Steps p.tables e below (T.setTop g) target := by
  obtain ⟨cB, h1, D, h2, h3, h4⟩ := hE
  have h1' : s.vm.findClass C = some cB := by rw [← X.warmed.alike.findClass]; exact h1
  obtain ⟨vm', X', st⟩ := X.instanceofYes hexec hown hlink h2 h4 h1' (by rw [h3]; exact Jvm.Free.SB.assignable_self _ _) hg hstack hdg
  exact ⟨_, X', rfl, st⟩
theorem cself {p : Program} {l : Launch} {e : Env} {R : Room} {s : State} {m : MethodId} {args : Array Value} {below : List Frame} {meth : Method} {c : Code} {T : State} {locs : List Loc} {cells slots : Nat} (X : Stand p l e R s m args below meth c T locs cells slots) (hexec : p.tables.exec = Jvm.exec) {own C : String} {index : Nat} (hown : s.vm.findClass own = some m.cls) (hlink : (Cond.classLink own index C).before args s = true) {a : Addr} (hE : Exact C a T)
    {g : JFrame} (hg : g.method = m) {rest : List Value} (hstack : g.stack = .ref a :: rest) (hdg : decode c.code g.pc = .ok (.checkcast index, 3)) :
    ∃ T', Stand p l e R s m args below meth c T' locs cells slots ∧ T'.heap = T.heap ∧ ∀ target, Steps p.tables e below (T'.setTop { g with pc := g.pc + 3, stack := .ref a :: rest }) target → Steps p.tables e below (T.setTop g) target := by
  obtain ⟨cB, h1, D, h2, h3, h4⟩ := hE
  have h1' : s.vm.findClass C = some cB := by rw [← X.warmed.alike.findClass]; exact h1
  obtain ⟨vm', X', st⟩ := X.checkcastYes hexec hown hlink h2 h4 h1' (by rw [h3]; exact Jvm.Free.SB.assignable_self _ _) hg hstack hdg
  exact ⟨_, X', rfl, fun t h => st t (by rw [← hstack] at h; exact h)⟩
namespace SEq
def yN : MethodName := ⟨"java/lang/String", "equals", "(Ljava/lang/Object;)Z"⟩
abbrev yB : ByteArray := jdk_42_method_66_code
theorem d0 : decode yB 0 = .ok (.aload_n 0, 1) := by decide +kernel
theorem d1 : decode yB 1 = .ok (.aload_n 1, 1) := by decide +kernel
theorem d2 : decode yB 2 = .ok (.if_acmp (.ne) 5, 3) := by decide +kernel
theorem d5 : decode yB 5 = .ok (.iconst 1, 1) := by decide +kernel
theorem d6 : decode yB 6 = .ok (.ireturn, 1) := by decide +kernel
theorem d7 : decode yB 7 = .ok (.aload_n 1, 1) := by decide +kernel
theorem d8 : decode yB 8 = .ok (.instanceof 10, 3) := by decide +kernel
theorem d11 : decode yB 11 = .ok (.ifCond (.eq) 43, 3) := by decide +kernel
theorem d14 : decode yB 14 = .ok (.aload_n 1, 1) := by decide +kernel
theorem d15 : decode yB 15 = .ok (.checkcast 10, 3) := by decide +kernel
theorem d18 : decode yB 18 = .ok (.astore_n 2, 1) := by decide +kernel
theorem d19 : decode yB 19 = .ok (.getstatic 38, 3) := by decide +kernel
theorem d22 : decode yB 22 = .ok (.ifCond (.eq) 14, 3) := by decide +kernel
theorem d25 : decode yB 25 = .ok (.aload_n 0, 1) := by decide +kernel
theorem d26 : decode yB 26 = .ok (.getfield 15, 3) := by decide +kernel
theorem d29 : decode yB 29 = .ok (.aload_n 2, 1) := by decide +kernel
theorem d30 : decode yB 30 = .ok (.getfield 15, 3) := by decide +kernel
theorem d33 : decode yB 33 = .ok (.if_icmp (.ne) 21, 3) := by decide +kernel
theorem d36 : decode yB 36 = .ok (.aload_n 0, 1) := by decide +kernel
theorem d37 : decode yB 37 = .ok (.getfield 9, 3) := by decide +kernel
theorem d40 : decode yB 40 = .ok (.aload_n 2, 1) := by decide +kernel
theorem d41 : decode yB 41 = .ok (.getfield 9, 3) := by decide +kernel
theorem d44 : decode yB 44 = .ok (.invokestatic 541, 3) := by decide +kernel
theorem d47 : decode yB 47 = .ok (.ifCond (.eq) 7, 3) := by decide +kernel
theorem d50 : decode yB 50 = .ok (.iconst 1, 1) := by decide +kernel
theorem d51 : decode yB 51 = .ok (.goto 4, 3) := by decide +kernel
theorem d54 : decode yB 54 = .ok (.iconst 0, 1) := by decide +kernel
theorem d55 : decode yB 55 = .ok (.ireturn, 1) := by decide +kernel
def site : List Cond := [.classLink "java/lang/String" 10 "java/lang/String", .fieldLink "java/lang/String" 38 "java/lang/String" "COMPACT_STRINGS" "Z", .fieldLink "java/lang/String" 15 "java/lang/String" "coder" "B", .fieldLink "java/lang/String" 9 "java/lang/String" "value" "[B", LEq.tab] ++ staticW "java/lang/String" 541 LEq.yN
def tab : Cond := tabOf yN yB 3 (some .boolean) site
def P (x t : Addr) (V : Cell) (cd : Int32) (n : Nat) (f : Nat → Int32) (y t' : Addr) (V' : Cell) (cd' : Int32) (k : Nat) (g : Nat → Int32) (z : Int32) (args : Array Value) (s : State) : Prop := args = #[.ref x, .ref y] ∧ Txt x t V cd n f s ∧ Txt y t' V' cd' k g s ∧ StaticIs s "java/lang/String" "COMPACT_STRINGS" "Z" (.int z) ∧ ¬ z = 0
/-- equals(Object) of two Strings: whether the texts are the same -/
theorem law (l : Launch) (x t : Addr) (V : Cell) (cd : Int32) (n : Nat) (f : Nat → Int32) (y t' : Addr) (V' : Cell) (cd' : Int32) (k : Nat) (g : Nat → Int32) (z : Int32) : Law l yN 2 1 1 14 yB 3 (some .boolean) site (P x t V cd n f y t' V' cd' k g z) (Says01 (SameT n f k g)) [] 0 0 := by
  refine Law.of_walk (plainFor_of_name (by decide +kernel)) (by decide +kernel) (by decide +kernel) (by decide) (fun _ _ h => by rw [h.1]; rfl) (fun _ U U' hal hh h => ⟨h.1, h.2.1.mv hal hh, h.2.2.1.mv hal hh, h.2.2.2.1.there hal hh, h.2.2.2.2⟩) (fun r U U' V V' h1 hal h2 h => Says01.mv r U U' V V' h1 hal h2 h) ?_
  intro p e s m args below meth c s₁ X0 hexec hbytes hml hret hlk hnm hown hh0 W hP
  obtain ⟨rfl, hx, hy, s1, hz⟩ := hP
  have c1 : Steps p.tables e below (s₁.setTop (entryFrame m #[.ref x, .ref y] 3)) (s₁.setTop (mkF m 2 #[.val (.ref x), .val (.ref y), .unset] [.ref y, .ref x])) := Steps.trans (entry rfl) (by
    show Steps p.tables e below (s₁.setTop (mkF m 0 #[.val (.ref x), .val (.ref y), .unset] [])) _
    refine XS.aloadN X0.here hexec rfl (hb hbytes d0) rfl rfl ?_
    refine XS.aloadN X0.here hexec rfl (hb hbytes d1) rfl rfl ?_
    exact Steps.refl _)
  by_cases hxy : x = y
  · have c2 : Steps p.tables e below (s₁.setTop (entryFrame m #[.ref x, .ref y] 3)) (s₁.setTop (mkF m 6 #[.val (.ref x), .val (.ref y), .unset] [.int 1])) := c1.trans (by
      refine acmpNo X0.here hexec rfl (hb hbytes d2) rfl rfl rfl (by simp [acmp, hxy]) ?_
      refine iconstV X0.here hexec rfl 1 (hb hbytes d5) (by decide) ?_
      exact Steps.refl _)
    subst hxy
    have ec : cd = cd' := by
      obtain ⟨D, fd, a1, a2, a3⟩ := hx.2.2.1
      obtain ⟨D', fd', b1, b2, b3⟩ := hy.2.2.1
      cases a1.symm.trans b1
      obtain ⟨q1, q2, q3, q4⟩ := a2.1
      obtain ⟨r1, r2, r3, r4⟩ := b2.1
      cases q4.symm.trans r4
      cases a3.symm.trans b3; rfl
    have et : t = t' := by
      obtain ⟨D, fd, a1, a2, a3⟩ := hx.2.1
      obtain ⟨D', fd', b1, b2, b3⟩ := hy.2.1
      cases a1.symm.trans b1
      obtain ⟨q1, q2, q3, q4⟩ := a2.1
      obtain ⟨r1, r2, r3, r4⟩ := b2.1
      cases q4.symm.trans r4
      cases a3.symm.trans b3; rfl
    subst ec et
    have ev : V = V' := by cases hx.2.2.2.1.1.symm.trans hy.2.2.2.1.1; rfl
    subst ev
    have hs : SameT n f k g := (Cod.eqv hx.2.2.2.2.1 hy.2.2.2.2.1 hx.2.2.2.2.2 hy.2.2.2.2.2).mp ⟨rfl, fun _ _ => rfl⟩
    exact ⟨s₁, some (.int 1), _, _, _, X0, rfl, rfl, rfl, (fun h => by cases h), ⟨1, rfl, hh0, Or.inl ⟨rfl, hs⟩⟩, fun fs hl => c2.trans (X0.ireturnOut hexec hret rfl (Or.inr (Or.inl rfl)) (hb hbytes d6) hl)⟩
  · have c2 : Steps p.tables e below (s₁.setTop (entryFrame m #[.ref x, .ref y] 3)) (s₁.setTop (mkF m 8 #[.val (.ref x), .val (.ref y), .unset] [.ref y])) := c1.trans (by
      refine acmpYes X0.here hexec rfl (pc0 := 2) rfl (hb hbytes d2) rfl rfl rfl (by simp [acmp, hxy]) (by decide) rfl ?_
      refine XS.aloadN X0.here hexec rfl (hb hbytes d7) rfl rfl ?_
      exact Steps.refl _)
    obtain ⟨T3, X3, q3, st3⟩ := cinst X0 hexec hown (wk W (.classLink "java/lang/String" 10 "java/lang/String")) (hy.mv X0.warmed.alike hh0).1 (g := (mkF m 8 #[.val (.ref x), .val (.ref y), .unset] [.ref y])) rfl (rest := []) rfl (hb hbytes d8)
    have hh3 := q3.trans hh0
    have c4 : Steps p.tables e below (s₁.setTop (entryFrame m #[.ref x, .ref y] 3)) (T3.setTop (mkF m 15 #[.val (.ref x), .val (.ref y), .unset] [.ref y])) := (c2.trans (st3 _ (Steps.refl _))).trans (by
      refine XS.ifNo X3.here hexec rfl (hb hbytes d11) rfl (i0_eq_f (by decide)) ?_
      refine XS.aloadN X3.here hexec rfl (hb hbytes d14) rfl rfl ?_
      exact Steps.refl _)
    obtain ⟨T5, X5, q5, st5⟩ := cself X3 hexec hown (wk W (.classLink "java/lang/String" 10 "java/lang/String")) (hy.mv X3.warmed.alike hh3).1 (g := (mkF m 15 #[.val (.ref x), .val (.ref y), .unset] [.ref y])) rfl (rest := []) rfl (hb hbytes d15)
    have hh5 := q5.trans hh3
    have c6 : Steps p.tables e below (s₁.setTop (entryFrame m #[.ref x, .ref y] 3)) (T5.setTop (mkF m 19 #[.val (.ref x), .val (.ref y), .val (.ref y)] [])) := (c4.trans (st5 _ (Steps.refl _))).trans (by
      refine XS.astoreN X5.here hexec rfl (hb hbytes d18) rfl rfl rfl ?_
      exact Steps.refl _)
    obtain ⟨T7, X7, q7, st7⟩ := X5.sget hexec hown (wk W (.fieldLink "java/lang/String" 38 "java/lang/String" "COMPACT_STRINGS" "Z")) s1 (fun _ _ h => by rw [hh5]; exact h) (g := (mkF m 19 #[.val (.ref x), .val (.ref y), .val (.ref y)] [])) rfl (hb hbytes d19)
    have hh7 := q7.trans hh5
    have c8 : Steps p.tables e below (s₁.setTop (entryFrame m #[.ref x, .ref y] 3)) (T7.setTop (mkF m 26 #[.val (.ref x), .val (.ref y), .val (.ref y)] [.ref x])) := (c6.trans (st7 _ (Steps.refl _))).trans (by
      refine XS.ifNo X7.here hexec rfl (hb hbytes d22) rfl (i0_eq_f hz) ?_
      refine XS.aloadN X7.here hexec rfl (hb hbytes d25) rfl rfl ?_
      exact Steps.refl _)
    obtain ⟨T9, X9, q9, st9⟩ := X7.hget hexec hown (wk W (.fieldLink "java/lang/String" 15 "java/lang/String" "coder" "B")) (hx.mv X7.warmed.alike hh7).2.2.1 (g := (mkF m 26 #[.val (.ref x), .val (.ref y), .val (.ref y)] [.ref x])) rfl (rest := []) rfl (hb hbytes d26)
    have hh9 := q9.trans hh7
    have c10 : Steps p.tables e below (s₁.setTop (entryFrame m #[.ref x, .ref y] 3)) (T9.setTop (mkF m 30 #[.val (.ref x), .val (.ref y), .val (.ref y)] [.ref y, .int cd])) := (c8.trans (st9 _ (Steps.refl _))).trans (by
      refine XS.aloadN X9.here hexec rfl (hb hbytes d29) rfl rfl ?_
      exact Steps.refl _)
    obtain ⟨T11, X11, q11, st11⟩ := X9.hget hexec hown (wk W (.fieldLink "java/lang/String" 15 "java/lang/String" "coder" "B")) (hy.mv X9.warmed.alike hh9).2.2.1 (g := (mkF m 30 #[.val (.ref x), .val (.ref y), .val (.ref y)] [.ref y, .int cd])) rfl (rest := [.int cd]) rfl (hb hbytes d30)
    have hh11 := q11.trans hh9
    have c12 : Steps p.tables e below (s₁.setTop (entryFrame m #[.ref x, .ref y] 3)) (T11.setTop (mkF m 33 #[.val (.ref x), .val (.ref y), .val (.ref y)] [.int cd', .int cd])) := c10.trans (st11 _ (Steps.refl _))
    by_cases hcd : cd = cd'
    · subst hcd
      have c13 : Steps p.tables e below (s₁.setTop (entryFrame m #[.ref x, .ref y] 3)) (T11.setTop (mkF m 37 #[.val (.ref x), .val (.ref y), .val (.ref y)] [.ref x])) := c12.trans (by
        refine XS.icmpNo X11.here hexec rfl (hb hbytes d33) rfl (ii_ne_f rfl) ?_
        refine XS.aloadN X11.here hexec rfl (hb hbytes d36) rfl rfl ?_
        exact Steps.refl _)
      obtain ⟨T14, X14, q14, st14⟩ := X11.hget hexec hown (wk W (.fieldLink "java/lang/String" 9 "java/lang/String" "value" "[B")) (hx.mv X11.warmed.alike hh11).2.1 (g := (mkF m 37 #[.val (.ref x), .val (.ref y), .val (.ref y)] [.ref x])) rfl (rest := []) rfl (hb hbytes d37)
      have hh14 := q14.trans hh11
      have c15 : Steps p.tables e below (s₁.setTop (entryFrame m #[.ref x, .ref y] 3)) (T14.setTop (mkF m 41 #[.val (.ref x), .val (.ref y), .val (.ref y)] [.ref y, .ref t])) := (c13.trans (st14 _ (Steps.refl _))).trans (by
        refine XS.aloadN X14.here hexec rfl (hb hbytes d40) rfl rfl ?_
        exact Steps.refl _)
      obtain ⟨T16, X16, q16, st16⟩ := X14.hget hexec hown (wk W (.fieldLink "java/lang/String" 9 "java/lang/String" "value" "[B")) (hy.mv X14.warmed.alike hh14).2.1 (g := (mkF m 41 #[.val (.ref x), .val (.ref y), .val (.ref y)] [.ref y, .ref t])) rfl (rest := [.ref t]) rfl (hb hbytes d41)
      have hh16 := q16.trans hh14
      have c17 : Steps p.tables e below (s₁.setTop (entryFrame m #[.ref x, .ref y] 3)) (T16.setTop (mkF m 44 #[.val (.ref x), .val (.ref y), .val (.ref y)] [.ref t', .ref t])) := c15.trans (st16 _ (Steps.refl _))
      obtain ⟨v18, T18, X18, E18, g18⟩ := X16.callS hexec (LEq.law l t V t' V') hown (wks W (staticW "java/lang/String" 541 LEq.yN)) (wk W LEq.tab) (W := 0) (Nat.le_of_ble_eq_true rfl) (Nat.le_of_ble_eq_true rfl) (Nat.le_refl _) (Nat.le_refl _) (g := (mkF m 44 #[.val (.ref x), .val (.ref y), .val (.ref y)] [.ref t', .ref t])) rfl (by rw [hml]; rfl) c17 (argsL := [.ref t, .ref t']) (rest := []) rfl rfl (by show 2 * 0 + 0 ≤ _; decide) (hb hbytes d44) (⟨rfl, hx.2.2.2.1.mv X16.warmed.alike hh16, hx.2.2.2.2.1.ty, hy.2.2.2.1.mv X16.warmed.alike hh16, hy.2.2.2.2.1.ty⟩)
      obtain ⟨v, rfl, q18, hv⟩ := E18
      have iff := Cod.eqv hx.2.2.2.2.1 hy.2.2.2.2.1 hx.2.2.2.2.2 hy.2.2.2.2.2
      rcases hv with ⟨rfl, he⟩ | ⟨rfl, he⟩
      · have c19 : Steps p.tables e below (s₁.setTop (entryFrame m #[.ref x, .ref y] 3)) (T18.setTop (mkF m 55 #[.val (.ref x), .val (.ref y), .val (.ref y)] [.int 1])) := Steps.trans g18 (by
          refine XS.ifNo X18.here hexec rfl (hb hbytes d47) rfl (i0_eq_f (by decide)) ?_
          refine iconstV X18.here hexec rfl 1 (hb hbytes d50) (by decide) ?_
          refine XS.goto X18.here hexec rfl (pc0 := 51) rfl (hb hbytes d51) (by decide) rfl ?_
          exact Steps.refl _)
        exact ⟨T18, some (.int 1), _, _, _, X18, rfl, rfl, rfl, (fun h => by cases h), ⟨1, rfl, q18.trans hh16, Or.inl ⟨rfl, iff.mp he⟩⟩, fun fs hl => c19.trans (X18.ireturnOut hexec hret rfl (Or.inr (Or.inl rfl)) (hb hbytes d55) hl)⟩
      · have c19 : Steps p.tables e below (s₁.setTop (entryFrame m #[.ref x, .ref y] 3)) (T18.setTop (mkF m 55 #[.val (.ref x), .val (.ref y), .val (.ref y)] [.int 0])) := Steps.trans g18 (by
          refine XS.ifYes X18.here hexec rfl (pc0 := 47) rfl (hb hbytes d47) rfl (i0_eq_t rfl) (by decide) rfl ?_
          refine iconstV X18.here hexec rfl 0 (hb hbytes d54) (by decide) ?_
          exact Steps.refl _)
        exact ⟨T18, some (.int 0), _, _, _, X18, rfl, rfl, rfl, (fun h => by cases h), ⟨0, rfl, q18.trans hh16, Or.inr ⟨rfl, fun q => he (iff.mpr q)⟩⟩, fun fs hl => c19.trans (X18.ireturnOut hexec hret rfl (Or.inr (Or.inl rfl)) (hb hbytes d55) hl)⟩
    · have c13 : Steps p.tables e below (s₁.setTop (entryFrame m #[.ref x, .ref y] 3)) (T11.setTop (mkF m 55 #[.val (.ref x), .val (.ref y), .val (.ref y)] [.int 0])) := c12.trans (by
        refine XS.icmpYes X11.here hexec rfl (pc0 := 33) rfl (hb hbytes d33) rfl (ii_ne_t hcd) (by decide) rfl ?_
        refine iconstV X11.here hexec rfl 0 (hb hbytes d54) (by decide) ?_
        exact Steps.refl _)
      exact ⟨T11, some (.int 0), _, _, _, X11, rfl, rfl, rfl, (fun h => by cases h), ⟨0, rfl, hh11, Or.inr ⟨rfl, Cod.dif hx.2.2.2.2.1 hy.2.2.2.2.1 hcd⟩⟩, fun fs hl => c13.trans (X11.ireturnOut hexec hret rfl (Or.inr (Or.inl rfl)) (hb hbytes d55) hl)⟩
theorem pays {l : Launch} {R : Room} {p : Program} {e : Env} {below : List Frame} {s : State} {sargs : Array Value} {len W : Nat} (x t : Addr) (V : Cell) (cd : Int32) (n : Nat) (f : Nat → Int32) (y t' : Addr) (V' : Cell) (cd' : Int32) (k : Nat) (g : Nat → Int32) (z : Int32) (htab : tab.before sargs s = true) (hfr : 2 ≤ R.frames) (hlo : W + 28 ≤ R.locals) :
    Back l R p e below s sargs yN len W (fun A₁ a₁ => A₁.cells + 0 ≤ R.cells ∧ A₁.slots + 0 ≤ R.slots ∧ P x t V cd n f y t' V' cd' k g z a₁ A₁.U) (fun A₁ _ v₁ B₁ => Says01 (SameT n f k g) v₁ A₁.U B₁.U ∧ B₁.locs = A₁.locs ++ [] ∧ B₁.cells = A₁.cells + 0 ∧ B₁.slots = A₁.slots + 0) :=
  (law l x t V cd n f y t' V' cd' k g z).pays htab hfr (by omega)
end SEq
end StrChars
namespace StrChars.Road
open Jvm Sem ClassFile Op Lib Jvm.Stand Jvm.Free Jvm.Free.XT
open Jvm.Lib.Cold (StaticIs)
/-- the words of String.equals(Object) -/
abbrev wordsEq : List Jvm.Cond := [.code SEq.yN SEq.yB 3 (some .boolean), .initialized ST, .classLink ST 10 ST, .fieldLink ST 38 ST "COMPACT_STRINGS" "Z", .fieldLink ST 15 ST "coder" "B", .fieldLink ST 9 ST "value" "[B", .methodLink ST 541 LEq.yN, .static LEq.yN, .code LEq.yN LEq.yB 3 (some .boolean), .initialized "java/lang/StringLatin1"]
theorem tabEq_of {a : Array Value} {s : State} (h : ∀ w ∈ wordsEq, w.before a s = true) : SEq.tab.before a s = true := by
  have hl : LEq.tab.before a s = true := unparts (wk h (.code LEq.yN LEq.yB 3 (some .boolean))) (wks h (.initialized LEq.yN.cls :: LEq.site))
  have q := consq hl h
  exact unparts (wk q (.code SEq.yN SEq.yB 3 (some .boolean))) (wks q (.initialized SEq.yN.cls :: SEq.site))
theorem movedEq {Z s : State} {a0 args : Array Value} (hZ : Z.Warmed39 s.vm) (hw : ∀ d ∈ wordsEq, d.before a0 Z = true) : ∀ d ∈ wordsEq, d.before args s = true := fun d hd => by
  have t : ∀ d ∈ wordsEq, (d.onTables && d.keepsFace) = true := by decide +kernel
  exact RoadKit.mv hZ (hw d hd) (t d hd)
/-- the road's facts of a String, as the laws ask it -/
theorem txt_of {Z U : State} {a0 : Array Value} {kI : Nat} (wi : (Jvm.Cond.instantiable ST kI).before a0 Z = true) (al : Z.vm.Alike U.vm) {x t : Addr} {kb : ClassId} {cs : List Int32} {cd N2 : Int32} {vs : List Value} (E : RoadKit.Exa Z U.heap x ST) (V : RoadKit.Fld Z U.heap x ST "value" "[B" (.ref t)) (C : RoadKit.Fld Z U.heap x ST "coder" "B" (.int cd)) (K : RoadKit.Arv Z U.heap t kb .byte N2 vs (.int 0)) (hc : CodA cs cd N2 vs) (hb : ∀ c ∈ cs, ¬ c < 0 ∧ ¬ (65535 : Int32) < c) (l2 : cs.length ≤ 4000) :
    ∃ A, Txt x t A cd cs.length (fun j => cs.getD j 0) U := by
  obtain ⟨A, K1, K2, K3, K4, K5, K6⟩ := K
  have hcod := hc.cod (by omega) K3 K5
  obtain ⟨D, fV, fC, hB, F1, F2, g1, g2, -, -⟩ := strObj wi al E V C
  exact ⟨A, ⟨_, hB.2.2.1, D, hB.1, rfl, by cases q : D.vm <;> first | rfl | exact absurd q (hB.2.1.2 _)⟩, Has.of hB F1 g1, Has.of hB F2 g2, ⟨K1.1, State.isArrayOf_alike al K1.2.1, K1.2.2, by rcases hcod with ⟨-, q, -⟩ | ⟨-, q, -⟩ <;> omega⟩, hcod, fun j hj => by
    have e : cs.getD j 0 = cs[j] := by simp [List.getD_eq_getElem?_getD, hj]
    show ¬ cs.getD j 0 < 0 ∧ ¬ 65535 < cs.getD j 0
    rw [e]; exact hb _ (List.getElem_mem _)⟩
theorem same_list (cs ds : List Int32) : SameT cs.length (fun j => cs.getD j 0) ds.length (fun j => ds.getD j 0) ↔ cs = ds := by
  constructor
  · rintro ⟨e, q⟩
    refine List.ext_getElem e fun j h1 h2 => ?_
    have := q j h1
    simpa [List.getD_eq_getElem?_getD, h1, h2] using this
  · rintro rfl
    exact ⟨rfl, fun _ _ => rfl⟩
/-- **equals(Object) OF TWO SUCH STRINGS**: 1 just where the chars are the same -/
theorem eqW {p : Program} {l : Launch} {e : Env} {R : Room} {s : State} {args : Array Value} {below : List Frame} {len W : Nat} {Z : State} {a0 : Array Value} {h : Heap} (hZ : Z.Warmed39 s.vm) (hw : ∀ d ∈ wordsEq, d.before a0 Z = true) {kI : Nat} (wi : (Jvm.Cond.instantiable ST kI).before a0 Z = true)
    {x t : Addr} {kb : ClassId} {cs : List Int32} {cd N2 : Int32} {vs : List Value} (E : RoadKit.Exa Z h x ST) (V : RoadKit.Fld Z h x ST "value" "[B" (.ref t)) (C : RoadKit.Fld Z h x ST "coder" "B" (.int cd)) (K : RoadKit.Arv Z h t kb .byte N2 vs (.int 0)) (hc : CodA cs cd N2 vs) (hb : ∀ c ∈ cs, ¬ c < 0 ∧ ¬ (65535 : Int32) < c) (l2 : cs.length ≤ 4000)
    {y t' : Addr} {kb' : ClassId} {ds : List Int32} {cd' N2' : Int32} {vs' : List Value} (E' : RoadKit.Exa Z h y ST) (V' : RoadKit.Fld Z h y ST "value" "[B" (.ref t')) (C' : RoadKit.Fld Z h y ST "coder" "B" (.int cd')) (K' : RoadKit.Arv Z h t' kb' .byte N2' vs' (.int 0)) (hc' : CodA ds cd' N2' vs') (hb' : ∀ c ∈ ds, ¬ c < 0 ∧ ¬ (65535 : Int32) < c) (l2' : ds.length ≤ 4000)
    {z : Int32} (S : RoadKit.Sta Z h ST "COMPACT_STRINGS" "Z" (.int z)) (hz : ¬ z = 0) (hfr : 2 ≤ R.frames) (hlo : W + 28 ≤ R.locals) :
    Back l R p e below s args (⟨"java/lang/String", "equals", "(Ljava/lang/Object;)Z"⟩ : MethodName) len W (fun P a => a = #[.ref x, .ref y] ∧ P.U.heap = h ∧ P.cells + 0 ≤ R.cells ∧ P.slots + 0 ≤ R.slots)
      (fun P _ v B => ∃ L, (((v = some (.int 1) ∧ cs = ds) ∨ (v = some (.int 0) ∧ ¬ cs = ds)) ∧ L = [] ∧ B.U.heap = h) ∧ B.locs = P.locs ++ L ∧ B.cells = P.cells + 0 ∧ B.slots = P.slots + 0) := by
  intro m meth c P g ig mk a X hg hsize hdg hW hn hp'
  obtain ⟨rfl, rfl, r1, r2⟩ := hp'
  have al : Z.vm.Alike P.U.vm := hZ.alike.trans X.warmed.alike
  obtain ⟨A, hx⟩ := txt_of wi al E V C K hc hb l2
  obtain ⟨A', hy⟩ := txt_of wi al E' V' C' K' hc' hb' l2'
  obtain ⟨v, B, X', ⟨⟨w, hv, hh, hq⟩, hl, hk, hs⟩, st⟩ := SEq.pays x t A cd cs.length (fun j => cs.getD j 0) y t' A' cd' ds.length (fun j => ds.getD j 0) z (tabEq_of (movedEq hZ hw)) hfr hlo m meth c P g ig mk _ X hg hsize hdg hW hn ⟨r1, r2, rfl, hx, hy, sta_is al S, hz⟩
  refine ⟨v, B, X', ⟨[], ⟨?_, rfl, hh⟩, hl, hk, hs⟩, st⟩
  rcases hq with ⟨rfl, q⟩ | ⟨rfl, q⟩
  · exact Or.inl ⟨hv, (same_list cs ds).mp q⟩
  · exact Or.inr ⟨hv, fun e => q ((same_list cs ds).mpr e)⟩
end StrChars.Road
namespace StrChars.Road
open Jvm Sem ClassFile Op Lib Jvm.Stand Jvm.Free Jvm.Free.XT
open Jvm.Lib.Cold (StaticIs)
/-- what backV says of its String, as the contracts of this text ask it: cs's low bytes, coder 0 -/
theorem codOf {cs : List Int32} {n : Nat} (hn : cs.length = n) (hb : ∀ c ∈ cs, ¬ 255 < c) : CodA cs 0 (Int32.ofNat n) ((cs.map lo8).map Value.int) := Or.inl ⟨rfl, by rw [hn], by simp [List.map_map, Function.comp_def], hb⟩
end StrChars.Road
end Jvm.Pilot.@@N@@
namespace Jvm.Pilot.@@N@@
open Jvm Jvm.ClassFile Sem Op Lib Jvm.Free Jvm.Stand Jvm.LawKit Jvm.RoadKit Bundle Jvm.Pilot.@@N@@.Jvm.D
theorem own_j1 {G : Prop} {A : Prop → Prop} (h1 : A G) (h2 : A G → G) : G := h2 h1
theorem own_wS {a0 : Array Value} {Z : State} (hw : ∀ d ∈ tables_1, d.before a0 Z = true) : ∀ a ∈ Bundle.stringAtoms, a.before a0 Z = true := by
  intro a ha
  simp only [Bundle.stringAtoms, List.mem_cons, List.not_mem_nil, or_false] at ha
  rcases ha with rfl | rfl | rfl | rfl | rfl | rfl | rfl
  · exact (hw _ (List.mem_of_getElem? (i := 15) rfl))
  · exact (hw _ (List.mem_of_getElem? (i := 14) rfl))
  · exact (hw _ (List.mem_of_getElem? (i := 28) rfl))
  · exact (hw _ (List.mem_of_getElem? (i := 29) rfl))
  · exact (hw _ (List.mem_of_getElem? (i := 30) rfl))
  · exact (hw _ (List.mem_of_getElem? (i := 31) rfl))
  · exact (hw _ (List.mem_of_getElem? (i := 32) rfl))
def own_EL : List (String × Nat) := [("com/example/cranfield/cranfield/model/Document", 14), ("com/example/cranfield/cranfield/model/Document", 27), ("com/example/cranfield/cranfield/model/Document", 31), ("java/lang/String", 7)]
theorem own_EW {a0 : Array Value} {Z : State} (hw : ∀ d ∈ tables_1, d.before a0 Z = true) : EW Z a0 own_EL := (EW.cons (hw _ (List.mem_of_getElem? (i := 39) rfl)) (by first | decide | decide +kernel | simp) (EW.cons (hw _ (List.mem_of_getElem? (i := 47) rfl)) (by first | decide | decide +kernel | simp) (EW.cons (hw _ (List.mem_of_getElem? (i := 50) rfl)) (by first | decide | decide +kernel | simp) (EW.cons (hw _ (List.mem_of_getElem? (i := 27) rfl)) (by first | decide | decide +kernel | simp) EW.nil))))
theorem own_hws {a0 : Array Value} {Z : State} (hw : ∀ d ∈ tables_1, d.before a0 Z = true) : ∀ d ∈ StrChars.Road.words, d.before a0 Z = true := fun d hd => hw d ((by decide +kernel : ∀ d ∈ StrChars.Road.words, d ∈ tables_1) d hd)
theorem own_heq {a0 : Array Value} {Z : State} (hw : ∀ d ∈ tables_1, d.before a0 Z = true) : ∀ d ∈ StrChars.Road.wordsEq, d.before a0 Z = true := fun d hd => hw d ((by decide +kernel : ∀ d ∈ StrChars.Road.wordsEq, d ∈ tables_1) d hd)
theorem own_safe {Z : State} {EL : List (String × Nat)} {vm : Vm} {h : Heap} {x : Addr} (hal : Z.vm.Alike vm) (E : Exa Z h x "java/lang/String") (F : Fld Z h x "java/lang/String" "value" "[B" .null) : Safe Z EL vm h x := fun B => by
  obtain ⟨cell, cf, k, i, f, g1, g2, -, -, -, -, g7⟩ := F
  obtain ⟨cell', k', e1, e2, e3, -, -⟩ := E
  cases g1.symm.trans e1
  obtain ⟨p, -, u, a, -, q, -, G, rfl | rfl⟩ := B
  · cases (show h[q.sa]? = some q.sC from G.ha).symm.trans g1
    obtain ⟨cS, ⟨⟨-, -, -, ⟨c1, k1, i1, f1, -⟩, -, -, -, v1, -⟩, -⟩, -⟩ := G
    obtain ⟨k3, e4, -⟩ := State.fieldFound?_setVm (s := Z) hal g2
    have e5 := (show (Wst Z vm h).fieldFound? _ _ _ = _ from e4).symm.trans f1
    simp only [Option.some.injEq, Prod.mk.injEq] at e5
    rw [e5.2.2.2, v1] at g7
    simp at g7
  · cases (show h[q.sd]? = some q.SA from G.hd).symm.trans g1
    obtain ⟨cS, -, -, f1, -⟩ := G
    have f2 : Z.vm.findClass "[B" = some q.SA.cls := by rw [← hal.findClass]; exact f1
    exact ids_ne f2 e2 (by decide) rfl
def own_Str (Z : State) (h : Heap) (x : Addr) (cs : List Int32) : Prop := ∃ (t : Addr) (kb : ClassId) (cd N : Int32) (vs : List Value), Exa Z h x "java/lang/String" ∧ Fld Z h x "java/lang/String" "value" "[B" (.ref t) ∧ Fld Z h x "java/lang/String" "coder" "B" (.int cd) ∧ Arv Z h t kb .byte N vs (.int 0) ∧ StrChars.Road.CodA cs cd N vs ∧ (∀ c ∈ cs, ¬ c < 0 ∧ ¬ (65535 : Int32) < c) ∧ cs.length ≤ 4000
theorem own_Strx {Z : State} {h h' : Heap} {x : Addr} {cs : List Int32} (F : own_Str Z h x cs) (E : Ext h h') : own_Str Z h' x cs := by
  obtain ⟨t, kb, cd, N, vs, h1, h2, h3, h4, r⟩ := F
  exact ⟨t, kb, cd, N, vs, h1.ext E, h2.ext E, h3.ext E, h4.ext E, r⟩
theorem own_Strk {Z : State} {h h' : Heap} {x : Addr} {cs : List Int32} (F : own_Str Z h x cs) (K : Keep h h' []) : own_Str Z h' x cs := by
  obtain ⟨t, kb, cd, N, vs, h1, h2, h3, h4, r⟩ := F
  exact ⟨t, kb, cd, N, vs, h1.keep K, h2.keep K nin0, h3.keep K nin0, h4.keep K nin0, r⟩
theorem own_Stre {Z : State} {h : Heap} {x : Addr} {cs : List Int32} (F : own_Str Z h x cs) : Exa Z h x "java/lang/String" := by
  obtain ⟨t, kb, cd, N, vs, h1, -⟩ := F
  exact h1
def own_cs (len c0 c1 : Int32) : List Int32 := if len = 0 then [] else if len = 1 then [c0] else [c0, c1]
theorem own_narc {c : Int32} (h : ¬ c < 0 ∧ ¬ (255 : Int32) < c) : nar .char c = c := by
  show c.toUInt32.toUInt16.toUInt32.toInt32 = c
  have a := c_i2c c
  have r := rng32 c
  rw [Int32.lt_iff_toInt_lt, Int32.lt_iff_toInt_lt] at h
  have l0 : (0 : Int32).toInt = 0 := rfl
  have l1 : (255 : Int32).toInt = 255 := rfl
  apply Int32.toInt_inj.mp
  omega
theorem own_to16 {c : Int32} (h : ¬ c < 0 ∧ ¬ (255 : Int32) < c) : ¬ c < 0 ∧ ¬ (65535 : Int32) < c := by
  rw [Int32.lt_iff_toInt_lt, Int32.lt_iff_toInt_lt] at *
  have l1 : (255 : Int32).toInt = 255 := rfl
  have l2 : (65535 : Int32).toInt = 65535 := rfl
  omega
theorem own_Stro {Z : State} {a0 : Array Value} {h h' : Heap} {x b : Addr} {cs : List Int32} {C : String} {n : Nat} (F : own_Str Z h x cs) (K : Keep h h' [b]) (E : Exa Z h b C) (wi : (Jvm.Cond.instantiable C n).before a0 Z = true) (h1 : "java/lang/String" ≠ C) : own_Str Z h' x cs := by
  obtain ⟨t, kb, cd, N, vs, g1, g2, g3, g4, r⟩ := F
  have n1 : x ≠ b := ne_exa g1 E h1
  have n2 : t ≠ b := Ne.symm (E.neArv g4 wi)
  exact ⟨t, kb, cd, N, vs, g1.keep K, g2.keep K (ninS n1 nin0), g3.keep K (ninS n1 nin0), g4.keep K (ninS n2 nin0), r⟩
theorem own_ns1 {Z : State} {a0 : Array Value} {C K : String} {n : Nat} (w1 : (Jvm.Cond.superclass C "java/lang/Object").before a0 Z = true) (w3 : (Jvm.Cond.noSuperclass "java/lang/Object").before a0 Z = true) (wk : (Jvm.Cond.instantiable K n).before a0 Z = true)
    (n1 : "java/lang/Object" ≠ K) (n3 : C ≠ K) : ∃ c t, Z.vm.findClass C = some c ∧ Z.vm.findClass K = some t ∧ Z.vm.assignable c t = false := by
  obtain ⟨t, k', g1, g2, g3, g4, -⟩ := Cond.instantiable_spec wk
  have hroot : NS Z "java/lang/Object" K := by
    obtain ⟨c, k, h1, h2, h3, -, -⟩ := Cond.noSuperclass_spec w3
    have ne := ids_ne h1 g1 n1
    refine ⟨c, t, h1, g1, fun fuel => ?_⟩
    cases fuel with
    | zero => rfl
    | succ f => simp [Vm.isSubclassAux, ne, h2, h3]
  obtain ⟨c, t', h0, g0, nn⟩ := NS.step w1 hroot n3
  cases g1.symm.trans g0
  obtain ⟨p, k, kp, -, h2, -, -, h5, -, -⟩ := Cond.superclass_spec h0 w1
  have ne := ids_ne h0 g1 n3
  have g7 : k'.isInterface = false := by
    simp only [Bool.or_eq_false_iff] at g4
    exact g4.1
  refine ⟨c, t, h0, g1, ?_⟩
  show Z.vm.assignableAux (255 + 1) c t = false
  simp [Vm.assignableAux, ne, h2, g2, h5, g3, g7, Vm.isSubclass, nn]
theorem own_3 (x : Int32) : let k := (x &&& (3 : Int32)) % (3 : Int32); k = 0 ∨ k = 1 ∨ k = 2 := by
  intro k
  have h0 := c_and x 3 (by decide)
  have h1 := (c_irem (x &&& (3 : Int32)) 3 3 (by decide)).1 h0.1
  have h2 : k.toInt = (x &&& (3 : Int32)).toInt % 3 := h1
  have h3 : k.toInt = 0 ∨ k.toInt = 1 ∨ k.toInt = 2 := by omega
  rcases h3 with h | h | h
  · exact Or.inl (Int32.toInt_inj.mp h)
  · exact Or.inr (Or.inl (Int32.toInt_inj.mp h))
  · exact Or.inr (Or.inr (Int32.toInt_inj.mp h))
theorem own_4 (x : Int32) : let k := x &&& (3 : Int32); k = 0 ∨ k = 1 ∨ k = 2 ∨ k = 3 := by
  intro k
  have h0 := c_and x 3 (by decide)
  have l3 : (3 : Int32).toInt = 3 := rfl
  rw [l3] at h0
  have h3 : k.toInt = 0 ∨ k.toInt = 1 ∨ k.toInt = 2 ∨ k.toInt = 3 := by
    have : k.toInt = (x &&& (3 : Int32)).toInt := rfl
    omega
  rcases h3 with h | h | h | h
  · exact Or.inl (Int32.toInt_inj.mp h)
  · exact Or.inr (Or.inl (Int32.toInt_inj.mp h))
  · exact Or.inr (Or.inr (Or.inl (Int32.toInt_inj.mp h)))
  · exact Or.inr (Or.inr (Or.inr (Int32.toInt_inj.mp h)))
def own_b8 (c : Int32) : Prop := ¬ c < 0 ∧ ¬ (255 : Int32) < c
theorem own_and8 (x : Int32) : own_b8 (x &&& (255 : Int32)) := by
  have h0 := c_and x 255 (by decide)
  have l1 : (255 : Int32).toInt = 255 := rfl
  have l0 : (0 : Int32).toInt = 0 := rfl
  rw [own_b8, Int32.lt_iff_toInt_lt, Int32.lt_iff_toInt_lt]
  omega
theorem own_zero8 : own_b8 0 := by rw [own_b8]; decide
theorem own_c8 {x : Int32} (h : own_b8 x) : own_b8 (x.toUInt32.toUInt16.toUInt32.toInt32) := by
  have e : x.toUInt32.toUInt16.toUInt32.toInt32 = x := own_narc h
  rw [e]; exact h
theorem own_nat {x : Int32} (h : own_b8 x) : x.toBitVec.toNat < 256 := by
  rw [own_b8, Int32.lt_iff_toInt_lt, Int32.lt_iff_toInt_lt] at h
  have l1 : (255 : Int32).toInt = 255 := rfl
  have l0 : (0 : Int32).toInt = 0 := rfl
  have e : x.toInt = Int.bmod x.toBitVec.toNat (2 ^ 32) := BitVec.toInt_eq_toNat_bmod x.toBitVec
  have e2 := Int.bmod_emod (x := (x.toBitVec.toNat : Int)) (m := 2 ^ 32)
  have lt := x.toBitVec.isLt
  rw [← e] at e2
  omega
theorem own_xor8 {a b : Int32} (ha : own_b8 a) (hb : own_b8 b) : own_b8 (a ^^^ b) := by
  have n1 := own_nat ha
  have n2 := own_nat hb
  have n3 : (a ^^^ b).toBitVec.toNat < 2 ^ 8 := by
    rw [Int32.toBitVec_xor, BitVec.toNat_xor]
    exact Nat.xor_lt_two_pow n1 n2
  have e : (a ^^^ b).toInt = Int.bmod (a ^^^ b).toBitVec.toNat (2 ^ 32) := BitVec.toInt_eq_toNat_bmod (a ^^^ b).toBitVec
  have e2 : Int.bmod (a ^^^ b).toBitVec.toNat (2 ^ 32) = (a ^^^ b).toBitVec.toNat := Int.bmod_eq_of_le (by omega) (by omega)
  have l1 : (255 : Int32).toInt = 255 := rfl
  have l0 : (0 : Int32).toInt = 0 := rfl
  rw [own_b8, Int32.lt_iff_toInt_lt, Int32.lt_iff_toInt_lt]
  omega
def own_l3 (l : Int32) : Prop := l = 0 ∨ l = 1 ∨ l = 2
theorem own_sm1 {l m a b c d : Int32} (hl : own_l3 l) (hm : own_l3 m) (n : ¬ l = m) : ¬ own_cs l a b = own_cs m c d := by
  rcases hl with h | h | h <;> subst h <;> rcases hm with h | h | h <;> subst h <;> simp [own_cs] at n ⊢
theorem own_sm2 {l m a b c d : Int32} (hl : own_l3 l) (e : l = m) (q : l < 1) : own_cs l a b = own_cs m c d := by
  subst e
  rcases hl with h | h | h <;> subst h
  · rfl
  · exact absurd q (by decide)
  · exact absurd q (by decide)
theorem own_sm3 {l m a b c d : Int32} (hl : own_l3 l) (e : l = m) (q : ¬ l < 1) (n : ¬ a = c) : ¬ own_cs l a b = own_cs m c d := by
  subst e
  rcases hl with h | h | h <;> subst h
  · exact absurd (by decide) q
  · simp [own_cs, n]
  · simp [own_cs, n]
theorem own_sm4 {l m a b c d : Int32} (hl : own_l3 l) (e : l = m) (q : ¬ l < 1) (r : l < 2) (n : a = c) : own_cs l a b = own_cs m c d := by
  subst e
  rcases hl with h | h | h <;> subst h
  · exact absurd (by decide) q
  · simp [own_cs, n]
  · exact absurd r (by decide)
theorem own_sm5 {l m a b c d : Int32} (hl : own_l3 l) (e : l = m) (r : ¬ l < 2) (n : ¬ b = d) : ¬ own_cs l a b = own_cs m c d := by
  subst e
  rcases hl with h | h | h <;> subst h
  · exact absurd (by decide) r
  · exact absurd (by decide) r
  · simp [own_cs, n]
theorem own_sm6 {l m a b c d : Int32} (e : l = m) (n : a = c) (n' : b = d) : own_cs l a b = own_cs m c d := by rw [e, n, n']
def own_len (x : Int32) : Int32 := (x &&& (3 : Int32)) % (3 : Int32)
def own_ch (b u v : Int32) : Int32 := if (b &&& (1 : Int32)) = 0 then u else v
theorem own_ch8 {b u v : Int32} (hu : own_b8 u) (hv : own_b8 v) : own_b8 (own_ch b u v) := by
  rw [own_ch]; split
  · exact hu
  · exact hv
def own_ds (x u v : Int32) : List Int32 := own_cs (own_len x) (own_ch (x >>> ((2 : Int32) &&& 31)) u v) (own_ch (x >>> ((3 : Int32) &&& 31)) u v)
def own_deq (c1 d1 e1 c2 d2 e2 : List Int32) : Int32 := if c1 = c2 then (if d1 = d2 then (if e1 = e2 then 1 else 0) else 0) else 0
theorem own_deqs (c d e : List Int32) : own_deq c d e c d e = 1 := by rw [own_deq, if_pos rfl, if_pos rfl, if_pos rfl]
theorem own_deqc (c1 d1 e1 c2 d2 e2 : List Int32) : own_deq c2 d2 e2 c1 d1 e1 = own_deq c1 d1 e1 c2 d2 e2 := by
  rw [own_deq, own_deq]
  by_cases h1 : c1 = c2
  · rw [if_pos h1, if_pos h1.symm]
    by_cases h2 : d1 = d2
    · rw [if_pos h2, if_pos h2.symm]
      by_cases h3 : e1 = e2
      · rw [if_pos h3, if_pos h3.symm]
      · rw [if_neg h3, if_neg (fun q => h3 q.symm)]
    · rw [if_neg h2, if_neg (fun q => h2 q.symm)]
  · rw [if_neg h1, if_neg (fun q => h1 q.symm)]
theorem d5_0 : decode jdk_42_method_149_code 0 = .ok (.aload_n 0, 1) := by decide +kernel
theorem d5_1 : decode jdk_42_method_149_code 1 = .ok (.invokespecial 1, 3) := by decide +kernel
theorem d5_4 : decode jdk_42_method_149_code 4 = .ok (.iload_n 3, 1) := by decide +kernel
theorem d5_5 : decode jdk_42_method_149_code 5 = .ok (.ifCond .ne 22, 3) := by decide +kernel
theorem d5_8 : decode jdk_42_method_149_code 8 = .ok (.aload_n 0, 1) := by decide +kernel
theorem d5_9 : decode jdk_42_method_149_code 9 = .ok (.ldc 7, 2) := by decide +kernel
theorem d5_11 : decode jdk_42_method_149_code 11 = .ok (.getfield 9, 3) := by decide +kernel
theorem d5_14 : decode jdk_42_method_149_code 14 = .ok (.putfield 9, 3) := by decide +kernel
theorem d5_17 : decode jdk_42_method_149_code 17 = .ok (.aload_n 0, 1) := by decide +kernel
theorem d5_18 : decode jdk_42_method_149_code 18 = .ok (.ldc 7, 2) := by decide +kernel
theorem d5_20 : decode jdk_42_method_149_code 20 = .ok (.getfield 15, 3) := by decide +kernel
theorem d5_23 : decode jdk_42_method_149_code 23 = .ok (.putfield 15, 3) := by decide +kernel
theorem d5_26 : decode jdk_42_method_149_code 26 = .ok (.return_, 1) := by decide +kernel
theorem pn_0 : plainName "java/lang/String" = true := by first | (simp [plainName, overriddenIn]; done) | decide +kernel
theorem ef_rmS4 (m : MethodId) (x0 : Addr) (x1 : Addr) (x2 : Int32) (x3 : Int32) : entryFrame m #[(.ref x0), (.ref x1), (.int x3), (.int x3), .null] 6 = mkF m 0 #[.val (.ref x0), .val (.ref x1), .val (.int x3), .val (.int x3), .val .null, .unset] [] := by first | (simp [entryFrame, mkF, argsToLocals, Value.category]; done) | rfl
def QrmS4 (Z : State) (a1 : Addr) (a2 : Addr) (h0 : Heap) (n0 : Nat) (v : Option Value) (h : Heap) (L : List Loc) : Prop := v = none ∧ Fr n0 L ∧ Keep h0 h [a1] ∧ ∃ (t : Addr) (kb : ClassId), Exa Z h a1 "java/lang/String" ∧ Fld Z h a1 "java/lang/String" "value" "[B" (.ref t) ∧ Fld Z h a1 "java/lang/String" "coder" "B" (.int (0 : Int32)) ∧ Arv Z h t kb .byte (0 : Int32) [] (.int (0 : Int32))
set_option maxRecDepth 65536 in
set_option maxHeartbeats 40000000 in
theorem rmS4 (l : Launch) (Z : State) (a0 : Array Value) (hw : ∀ d ∈ tables_1, d.before a0 Z = true) (ws : List Jvm.Cond) (a1 : Addr) (a2 : Addr) (h0 : Heap) (n0 : Nat) (Z0 : n0 ≤ h0.size) (E_o : Exa Z h0 a1 "java/lang/String") (F_v : Fld Z h0 a1 "java/lang/String" "value" "[B" .null) (F_c : Fld Z h0 a1 "java/lang/String" "coder" "B" (.int (0 : Int32))) (g_a1 : n0 ≤ a1) :
    MetFree l (⟨"java/lang/String", "<init>", "([CIILjava/lang/Void;)V"⟩ : MethodName) (head1 (Jvm.Cond.code (⟨"java/lang/String", "<init>", "([CIILjava/lang/Void;)V"⟩ : MethodName) jdk_42_method_149_code 6 none :: ws) ({ frames := 1, cells := 4, slots := 8, locals := 12 } : Room)) (fun a U => a = #[(.ref a1), (.ref a2), (.int (0 : Int32)), (.int (0 : Int32)), .null] ∧ Z.Warmed39 U.vm ∧ U.heap = h0 ∧ CHv Z own_EL U.vm h0) (fun _ _ _ _ _ => True) (fun _ U o U' => ∃ v L, o = .returned v ∧ QrmS4 Z a1 a2 h0 n0 v U'.heap L ∧ CHr Z own_EL U.vm U.heap U'.vm U'.heap ∧ ReturnedEndW U o U' L ({ frames := 1, cells := 4, slots := 8, locals := 12 } : Room).cells ({ frames := 1, cells := 4, slots := 8, locals := 12 } : Room).slots) := by
  refine MetFree.of_bodySF (plainFor_of_name pn_0) hisR ?_
  intro p e s m args below meth c s₁ Bd hml0 hP hK
  obtain ⟨rfl, hZ, hh, hH⟩ := hP
  have hx := Bd.exec
  have hby := Bd.bytes
  have hml : c.maxLocals = 6 := hml0
  have hown : s.vm.findClass "java/lang/String" = some m.cls := findClass_of_methodNamed Bd.named
  have hnm := (name_of_methodNamed Bd.named Bd.method).1
  have X0 : Stand p l e ({ frames := 1, cells := 4, slots := 8, locals := 12 } : Room) s m #[(.ref a1), (.ref a2), (.int (0 : Int32)), (.int (0 : Int32)), .null] below meth c s₁ [] 0 0 := Stand.of_body Bd
  have e0 : s₁.heap = h0 := by rw [← hh, Bd.state]; rfl
  have N0 := Fr.nil n0
  have pre0 : ∀ t_, Steps p.tables e below (s₁.setTop (mkF m 0 #[.val (.ref a1), .val (.ref a2), .val (.int (0 : Int32)), .val (.int (0 : Int32)), .val .null, .unset] [])) t_ → Steps p.tables e below (s₁.setTop (entryFrame m #[(.ref a1), (.ref a2), (.int (0 : Int32)), (.int (0 : Int32)), .null] 6)) t_ := fun t_ k_ => castTop (ef_rmS4 m a1 a2 ((0 : Int32)) ((0 : Int32))) k_
  have sf0 := own_safe (EL := own_EL) (vm := s.vm) hZ.alike E_o F_v
  have lt0 := E_o.lt
  obtain ⟨T101, X101, e101, st101⟩ := initO X0 hx hZ hown (hw _ (List.mem_of_getElem? (i := 24) rfl)) (hw _ (List.mem_of_getElem? (i := 25) rfl)) (hw _ (List.mem_of_getElem? (i := 26) rfl)) e0 (g := (mkF m 1 #[.val (.ref a1), .val (.ref a2), .val (.int (0 : Int32)), .val (.int (0 : Int32)), .val .null, .unset] [(.ref a1)])) rfl (by rw [hml]; rfl) rfl (hb hby d5_1) (by decide) (W := 0) (by show 2 * 0 + _ ≤ _; exact Nat.le_of_eq rfl) (by decide)
  obtain ⟨lit, T102, h102, k1_102, tb, kb, X102, e102, Ext102, hS102, hk102, hZ102, hown102, E_lit, C_lit, V_lit, A_lit, -, -, hC102, -, hSf_lit, st102⟩ := Jvm.RoadKit.ldcCH (s := s) (vm0 := s.vm) X101 hx hZ hown (hw _ (List.mem_of_getElem? (i := 27) rfl)) (own_wS hw) e101 ((State.WarmedH.refl s).since 0) (Nat.zero_le _) (own_EW hw) (List.mem_of_getElem? (i := 3) rfl) (CHr.refl hH).1 (vs := []) (z := (0 : Int32)) (by first | exact ⟨by simp, by simp⟩ | decide | decide +kernel) (by decide) (by decide) (g := (mkF m 9 #[.val (.ref a1), .val (.ref a2), .val (.int (0 : Int32)), .val (.int (0 : Int32)), .val .null, .unset] [(.ref a1)])) rfl (hb hby d5_9) (n := 0) (by first | decide | decide +kernel | simp) (by decide) (by decide) (by decide)
  have E_103 := E_o.ext Ext102
  have Fv_104 := F_v.ext Ext102
  have Fc_105 := F_c.ext Ext102
  have K_106 := (Keep.refl h0 [a1]).ext Ext102
  have Z107 : n0 ≤ h102.size := Nat.le_trans Z0 (Ext102.1)
  have ch108 := (CHr.refl hH).trans hC102
  have sf1 := hC102.safe lt0 sf0
  have nel := hSf_lit a1 sf1
  obtain ⟨T109, X109, e109, st109⟩ := getF X102 hx hZ102 hown102 (host := "") (Or.inl (hw _ (List.mem_of_getElem? (i := 33) rfl))) Via.refl e102 V_lit (g := (mkF m 11 #[.val (.ref a1), .val (.ref a2), .val (.int (0 : Int32)), .val (.int (0 : Int32)), .val .null, .unset] [(.ref lit), (.ref a1)])) rfl rfl (hb hby d5_11)
  obtain ⟨T110, h110, X110, e110, W110, st110⟩ := putF X109 hx hZ102 hown102 (host := "") (Or.inl (hw _ (List.mem_of_getElem? (i := 33) rfl))) Via.refl e109 Fv_104 E_103 (Or.inr ⟨(hw _ (List.mem_of_getElem? (i := 29) rfl)), rfl, hnm⟩) (hw _ (List.mem_of_getElem? (i := 14) rfl)) (ty := (.array .byte)) (by decide) rfl rfl (g := (mkF m 14 #[.val (.ref a1), .val (.ref a2), .val (.int (0 : Int32)), .val (.int (0 : Int32)), .val .null, .unset] [(.ref tb), (.ref a1)])) rfl rfl (hb hby d5_14)
  have Fc_111 := Fc_105.other W110 (Or.inr (slot_ne (Or.inr (hw _ (List.mem_of_getElem? (i := 30) rfl))) (Or.inr (hw _ (List.mem_of_getElem? (i := 29) rfl))) (by decide) (t := .byte) (t' := (.array .byte)) (by decide) (by decide)))
  have E_112 := E_103.wr W110
  have K_113 := K_106.wr W110 (Or.inl (List.mem_of_getElem? (i := 0) rfl))
  have At_116 := A_lit.other W110 nel.2.symm
  have Fv_117 := Fv_104.same W110
  have N110 := Fr.snoc X110 N0 g_a1
  have Z118 : n0 ≤ h110.size := Nat.le_trans Z107 ((Keep.of_wr W110).1)
  have hk119 := Nat.le_trans hk102 ((Keep.of_wr W110).1)
  have sf2 := Safe.wr W110 sf1 ch108.1 sf1
  have lt1 := E_112.lt
  have ch120 := ch108.trans (CHr.wr W110 sf1 ch108.1)
  obtain ⟨lit2, T121, h121, k1_121, tb2, kb2, X121, e121, Ext121, hS121, hk121, hZ121, hown121, E_lit2, C_lit2, V_lit2, A_lit2, -, -, hC121, -, hSf_lit2, st121⟩ := Jvm.RoadKit.ldcCH (s := s) (vm0 := T102.vm) X110 hx hZ102 hown102 (hw _ (List.mem_of_getElem? (i := 27) rfl)) (own_wS hw) e110 hS102 hk119 (own_EW hw) (List.mem_of_getElem? (i := 3) rfl) ch120.1 (vs := []) (z := (0 : Int32)) (by first | exact ⟨by simp, by simp⟩ | decide | decide +kernel) (by decide) (by decide) (g := (mkF m 18 #[.val (.ref a1), .val (.ref a2), .val (.int (0 : Int32)), .val (.int (0 : Int32)), .val .null, .unset] [(.ref a1)])) rfl (hb hby d5_18) (n := 0) (by first | decide | decide +kernel | simp) (by decide) (by decide) (by decide)
  have E_122 := E_112.ext Ext121
  have Fv_123 := Fv_117.ext Ext121
  have Fc_124 := Fc_111.ext Ext121
  have K_125 := K_113.ext Ext121
  have At_128 := At_116.ext Ext121
  have Z129 : n0 ≤ h121.size := Nat.le_trans Z118 (Ext121.1)
  have ch130 := ch120.trans hC121
  have sf3 := hC121.safe lt1 sf2
  obtain ⟨T131, X131, e131, st131⟩ := getF X121 hx hZ121 hown121 (host := "") (Or.inl (hw _ (List.mem_of_getElem? (i := 34) rfl))) Via.refl e121 C_lit2 (g := (mkF m 20 #[.val (.ref a1), .val (.ref a2), .val (.int (0 : Int32)), .val (.int (0 : Int32)), .val .null, .unset] [(.ref lit2), (.ref a1)])) rfl rfl (hb hby d5_20)
  obtain ⟨T132, h132, X132, e132, W132, st132⟩ := putFN X131 hx hZ121 hown121 (hw _ (List.mem_of_getElem? (i := 34) rfl)) Via.refl e131 Fc_124 E_122 (Or.inr ⟨(hw _ (List.mem_of_getElem? (i := 30) rfl)), rfl, hnm⟩) (hw _ (List.mem_of_getElem? (i := 14) rfl)) (ty := .byte) (v' := (.int (nar .byte (0 : Int32)))) (by decide) rfl (fits_nar_byte _) (g := (mkF m 23 #[.val (.ref a1), .val (.ref a2), .val (.int (0 : Int32)), .val (.int (0 : Int32)), .val .null, .unset] [(.int (0 : Int32)), (.ref a1)])) rfl rfl (hb hby d5_23)
  have Fv_133 := Fv_123.other W132 (Or.inr (slot_ne (Or.inr (hw _ (List.mem_of_getElem? (i := 29) rfl))) (Or.inr (hw _ (List.mem_of_getElem? (i := 30) rfl))) (by decide) (t := (.array .byte)) (t' := .byte) (by decide) (by decide)))
  have E_134 := E_122.wr W132
  have K_135 := K_125.wr W132 (Or.inl (List.mem_of_getElem? (i := 0) rfl))
  have At_138 := At_128.other W132 nel.2.symm
  have Fc_139 := Fc_124.same W132
  have N132 := Fr.snoc X132 N110 g_a1
  have Z140 : n0 ≤ h132.size := Nat.le_trans Z129 ((Keep.of_wr W132).1)
  have hk141 := Nat.le_trans hk121 ((Keep.of_wr W132).1)
  have ch142 := ch130.trans (CHr.wr W132 sf3 ch130.1)
  have pre143 : ∀ t_, Steps p.tables e below (T132.setTop (mkF m 26 #[.val (.ref a1), .val (.ref a2), .val (.int (0 : Int32)), .val (.int (0 : Int32)), .val .null, .unset] [])) t_ → Steps p.tables e below (s₁.setTop (entryFrame m #[(.ref a1), (.ref a2), (.int (0 : Int32)), (.int (0 : Int32)), .null] 6)) t_ := fun t_ k_ => pre0 _ (by
    show Steps p.tables e below (s₁.setTop (mkF m 0 #[.val (.ref a1), .val (.ref a2), .val (.int (0 : Int32)), .val (.int (0 : Int32)), .val .null, .unset] [])) _
    refine XS.aloadN X0.here hx rfl (hb hby d5_0) rfl rfl ?_
    show Steps p.tables e below (s₁.setTop (mkF m 1 #[.val (.ref a1), .val (.ref a2), .val (.int (0 : Int32)), .val (.int (0 : Int32)), .val .null, .unset] [(.ref a1)])) _
    refine st101 _ ?_
    show Steps p.tables e below (T101.setTop (mkF m 4 #[.val (.ref a1), .val (.ref a2), .val (.int (0 : Int32)), .val (.int (0 : Int32)), .val .null, .unset] [])) _
    refine XS.iloadN X101.here hx rfl (hb hby d5_4) rfl ?_
    show Steps p.tables e below (T101.setTop (mkF m 5 #[.val (.ref a1), .val (.ref a2), .val (.int (0 : Int32)), .val (.int (0 : Int32)), .val .null, .unset] [(.int (0 : Int32))])) _
    refine XS.ifNo X101.here hx rfl (hb hby d5_5) rfl ((if0 _ _).trans (teq (rfl : (0 : Int32) = 0)).2) ?_
    show Steps p.tables e below (T101.setTop (mkF m 8 #[.val (.ref a1), .val (.ref a2), .val (.int (0 : Int32)), .val (.int (0 : Int32)), .val .null, .unset] [])) _
    refine XS.aloadN X101.here hx rfl (hb hby d5_8) rfl rfl ?_
    show Steps p.tables e below (T101.setTop (mkF m 9 #[.val (.ref a1), .val (.ref a2), .val (.int (0 : Int32)), .val (.int (0 : Int32)), .val .null, .unset] [(.ref a1)])) _
    refine st102 _ ?_
    show Steps p.tables e below (T102.setTop (mkF m 11 #[.val (.ref a1), .val (.ref a2), .val (.int (0 : Int32)), .val (.int (0 : Int32)), .val .null, .unset] [(.ref lit), (.ref a1)])) _
    refine st109 _ ?_
    show Steps p.tables e below (T109.setTop (mkF m 14 #[.val (.ref a1), .val (.ref a2), .val (.int (0 : Int32)), .val (.int (0 : Int32)), .val .null, .unset] [(.ref tb), (.ref a1)])) _
    refine st110 _ ?_
    show Steps p.tables e below (T110.setTop (mkF m 17 #[.val (.ref a1), .val (.ref a2), .val (.int (0 : Int32)), .val (.int (0 : Int32)), .val .null, .unset] [])) _
    refine XS.aloadN X110.here hx rfl (hb hby d5_17) rfl rfl ?_
    show Steps p.tables e below (T110.setTop (mkF m 18 #[.val (.ref a1), .val (.ref a2), .val (.int (0 : Int32)), .val (.int (0 : Int32)), .val .null, .unset] [(.ref a1)])) _
    refine st121 _ ?_
    show Steps p.tables e below (T121.setTop (mkF m 20 #[.val (.ref a1), .val (.ref a2), .val (.int (0 : Int32)), .val (.int (0 : Int32)), .val .null, .unset] [(.ref lit2), (.ref a1)])) _
    refine st131 _ ?_
    show Steps p.tables e below (T131.setTop (mkF m 23 #[.val (.ref a1), .val (.ref a2), .val (.int (0 : Int32)), .val (.int (0 : Int32)), .val .null, .unset] [(.int (0 : Int32)), (.ref a1)])) _
    refine st132 _ ?_
    exact k_)
  obtain ⟨fs, hr, hrun, hended, hWr, hW1, hW2, hsame⟩ := Jvm.Stand.leaveW (s := s) X132 hS121 (by rw [e132]; exact hk141) (v := none) (fun _ => rfl)
  refine ⟨_, _, pre143 _ ?_, hrun, hended, _, _, rfl, ?_, (by show CHr Z own_EL s.vm s.heap T132.vm T132.heap; rw [hh, e132]; exact ch142.trans (CHv.at (s := s) (vm0 := T121.vm) X132 hZ121 (own_EW hw) ch142.1)), hWr, hW1, hW2, hsame.mono (by decide) (by decide)⟩
  · show Steps p.tables e below (T132.setTop (mkF m 26 #[.val (.ref a1), .val (.ref a2), .val (.int (0 : Int32)), .val (.int (0 : Int32)), .val .null, .unset] [])) _
    exact X132.returnOut hx Bd.returns (hb hby d5_26) hr
  · show QrmS4 Z a1 a2 h0 n0 _ T132.heap _
    rw [e132]
    exact ⟨rfl, N132, K_135, tb, kb, E_134, Fv_133, Fc_139, At_138⟩
theorem pd_0 : parseMethodDescriptor "([CIILjava/lang/Void;)V" = some ⟨[(.array .char), .int, .int, (.object "java/lang/Void")], none⟩ := by decide +kernel
theorem d4_0 : decode jdk_42_method_3_code 0 = .ok (.aload_n 0, 1) := by decide +kernel
theorem d4_1 : decode jdk_42_method_3_code 1 = .ok (.aload_n 1, 1) := by decide +kernel
theorem d4_2 : decode jdk_42_method_3_code 2 = .ok (.iconst 0, 1) := by decide +kernel
theorem d4_3 : decode jdk_42_method_3_code 3 = .ok (.aload_n 1, 1) := by decide +kernel
theorem d4_4 : decode jdk_42_method_3_code 4 = .ok (.arraylength, 1) := by decide +kernel
theorem d4_5 : decode jdk_42_method_3_code 5 = .ok (.aconst_null, 1) := by decide +kernel
theorem d4_6 : decode jdk_42_method_3_code 6 = .ok (.invokespecial 27, 3) := by decide +kernel
theorem d4_9 : decode jdk_42_method_3_code 9 = .ok (.return_, 1) := by decide +kernel
theorem ef_rmS1 (m : MethodId) (x0 : Addr) (x1 : Addr) : entryFrame m #[(.ref x0), (.ref x1)] 2 = mkF m 0 #[.val (.ref x0), .val (.ref x1)] [] := by first | (simp [entryFrame, mkF, argsToLocals, Value.category]; done) | rfl
def QrmS1 (Z : State) (a1 : Addr) (a2 : Addr) (kc : ClassId) (h0 : Heap) (n0 : Nat) (v : Option Value) (h : Heap) (L : List Loc) : Prop := v = none ∧ Fr n0 L ∧ Keep h0 h [a1] ∧ ∃ (t : Addr) (kb : ClassId), Exa Z h a1 "java/lang/String" ∧ Fld Z h a1 "java/lang/String" "value" "[B" (.ref t) ∧ Fld Z h a1 "java/lang/String" "coder" "B" (.int (0 : Int32)) ∧ Arv Z h t kb .byte (0 : Int32) [] (.int (0 : Int32))
set_option maxRecDepth 65536 in
set_option maxHeartbeats 40000000 in
theorem rmS1 (l : Launch) (Z : State) (a0 : Array Value) (hw : ∀ d ∈ tables_1, d.before a0 Z = true) (ws : List Jvm.Cond) (a1 : Addr) (a2 : Addr) (kc : ClassId) (h0 : Heap) (n0 : Nat) (Z0 : n0 ≤ h0.size) (E_o : Exa Z h0 a1 "java/lang/String") (F_v : Fld Z h0 a1 "java/lang/String" "value" "[B" .null) (F_c : Fld Z h0 a1 "java/lang/String" "coder" "B" (.int (0 : Int32))) (g_a1 : n0 ≤ a1) (V : Arv Z h0 a2 kc .char (0 : Int32) [] (.int (0 : Int32))) :
    MetFree l (⟨"java/lang/String", "<init>", "([C)V"⟩ : MethodName) (head1 (Jvm.Cond.code (⟨"java/lang/String", "<init>", "([C)V"⟩ : MethodName) jdk_42_method_3_code 2 none :: ws) ({ frames := 2, cells := 4, slots := 8, locals := 29 } : Room)) (fun a U => a = #[(.ref a1), (.ref a2)] ∧ Z.Warmed39 U.vm ∧ U.heap = h0 ∧ CHv Z own_EL U.vm h0) (fun _ _ _ _ _ => True) (fun _ U o U' => ∃ v L, o = .returned v ∧ QrmS1 Z a1 a2 kc h0 n0 v U'.heap L ∧ CHr Z own_EL U.vm U.heap U'.vm U'.heap ∧ ReturnedEndW U o U' L ({ frames := 2, cells := 4, slots := 8, locals := 29 } : Room).cells ({ frames := 2, cells := 4, slots := 8, locals := 29 } : Room).slots) := by
  refine MetFree.of_bodySF (plainFor_of_name pn_0) hisR ?_
  intro p e s m args below meth c s₁ Bd hml0 hP hK
  obtain ⟨rfl, hZ, hh, hH⟩ := hP
  have hx := Bd.exec
  have hby := Bd.bytes
  have hml : c.maxLocals = 2 := hml0
  have hown : s.vm.findClass "java/lang/String" = some m.cls := findClass_of_methodNamed Bd.named
  have hnm := (name_of_methodNamed Bd.named Bd.method).1
  have X0 : Stand p l e ({ frames := 2, cells := 4, slots := 8, locals := 29 } : Room) s m #[(.ref a1), (.ref a2)] below meth c s₁ [] 0 0 := Stand.of_body Bd
  have e0 : s₁.heap = h0 := by rw [← hh, Bd.state]; rfl
  have N0 := Fr.nil n0
  have pre0 : ∀ t_, Steps p.tables e below (s₁.setTop (mkF m 0 #[.val (.ref a1), .val (.ref a2)] [])) t_ → Steps p.tables e below (s₁.setTop (entryFrame m #[(.ref a1), (.ref a2)] 2)) t_ := fun t_ k_ => castTop (ef_rmS1 m a1 a2) k_
  obtain ⟨cl, Ar, -, Sz, Ng, -, -⟩ := V
  obtain ⟨_, _, ⟨T101, L101, k101, n101⟩, -, X101, hS101, hle101, ⟨Lc101, hQ101, l101, y101, z101, hC101⟩, st101⟩ := Jvm.Stand.specialBackS (s := (s.setVm s.vm)) X0 hx (y := (⟨"java/lang/String", "<init>", "([CIILjava/lang/Void;)V"⟩ : MethodName)) rfl hown (mvT hZ (hw _ (List.mem_of_getElem? (i := 20) rfl))) (mvT hZ (hw _ (List.mem_of_getElem? (i := 21) rfl))) (mvT hZ (hw _ (List.mem_of_getElem? (i := 23) rfl))) (by decide) (backOfSH (s := s) (vm0 := s.vm) (W := 0) (rmS4 l Z a0 hw [] a1 a2 h0 n0 Z0 E_o F_v F_c g_a1) hZ (hw _ (List.mem_of_getElem? (i := 23) rfl)) (hw _ (List.mem_of_getElem? (i := 15) rfl)) (by decide) (by decide) (own_EW hw) (CHr.refl hH).1) (g := (mkF m 6 #[.val (.ref a1), .val (.ref a2)] [.null, (.int (0 : Int32)), (.int (0 : Int32)), (.ref a2), (.ref a1)])) rfl (by rw [hml]; rfl) (Steps.refl _) (a := a1) (argsL := [(.ref a2), (.int (0 : Int32)), (.int (0 : Int32)), .null]) (rest := []) (lenOf pd_0 rfl) rfl (by show 2 * 0 + _ ≤ _; exact Nat.le_of_eq rfl) (hb hby d4_6) (fun _ _ => ⟨rfl, e0, (by decide : 0 + 4 ≤ _), (by decide : 0 + 8 ≤ _)⟩)
  dsimp only [Pt.U, Pt.locs, Pt.cells, Pt.slots] at X101 l101 y101 z101 st101 hQ101 hS101 hle101 hC101
  subst l101 y101 z101
  have hle101' : h0.size ≤ T101.heap.size := by have q := hle101; rw [e0] at q; exact q
  obtain ⟨X101', hS101', hZ101, hown101⟩ := rebS (s := s) (vm0 := s.vm) ((State.WarmedH.refl s).since 0) (Nat.zero_le _) X101 hS101 hle101' hZ hown
  obtain ⟨rfl, N101q, K101, Z101⟩ := hQ101
  have N101 := Fr.app N0 N101q
  have ch102 := (CHr.refl hH).trans hC101
  have pre103 : ∀ t_, Steps p.tables e below (T101.setTop (mkF m 9 #[.val (.ref a1), .val (.ref a2)] [])) t_ → Steps p.tables e below (s₁.setTop (entryFrame m #[(.ref a1), (.ref a2)] 2)) t_ := fun t_ k_ => pre0 _ (by
    show Steps p.tables e below (s₁.setTop (mkF m 0 #[.val (.ref a1), .val (.ref a2)] [])) _
    refine XS.aloadN X0.here hx rfl (hb hby d4_0) rfl rfl ?_
    show Steps p.tables e below (s₁.setTop (mkF m 1 #[.val (.ref a1), .val (.ref a2)] [(.ref a1)])) _
    refine XS.aloadN X0.here hx rfl (hb hby d4_1) rfl rfl ?_
    show Steps p.tables e below (s₁.setTop (mkF m 2 #[.val (.ref a1), .val (.ref a2)] [(.ref a2), (.ref a1)])) _
    refine XS.iconst X0.here hx rfl (hb hby d4_2) ?_
    show Steps p.tables e below (s₁.setTop (mkF m 3 #[.val (.ref a1), .val (.ref a2)] [(.int (0 : Int32)), (.ref a2), (.ref a1)])) _
    refine XS.aloadN X0.here hx rfl (hb hby d4_3) rfl rfl ?_
    show Steps p.tables e below (s₁.setTop (mkF m 4 #[.val (.ref a1), .val (.ref a2)] [(.ref a2), (.int (0 : Int32)), (.ref a2), (.ref a1)])) _
    refine X0.arraylength hx (by rw [e0]; exact Ar.1) (State.isArrayOf_alike hZ.alike Ar.2.1) (g := (mkF m 4 #[.val (.ref a1), .val (.ref a2)] [(.ref a2), (.int (0 : Int32)), (.ref a2), (.ref a1)])) rfl rfl (hb hby d4_4) _ ?_
    rw [len_of Sz Ng]
    show Steps p.tables e below (s₁.setTop (mkF m 5 #[.val (.ref a1), .val (.ref a2)] [(.int (0 : Int32)), (.int (0 : Int32)), (.ref a2), (.ref a1)])) _
    refine XS.aconstNull X0.here hx rfl (hb hby d4_5) ?_
    show Steps p.tables e below (s₁.setTop (mkF m 6 #[.val (.ref a1), .val (.ref a2)] [.null, (.int (0 : Int32)), (.int (0 : Int32)), (.ref a2), (.ref a1)])) _
    refine st101.trans ?_
    exact k_)
  obtain ⟨fs, hr, hrun, hended, hWr, hW1, hW2, hsame⟩ := Jvm.Stand.leaveW (s := s) X101' hS101' (by exact (Nat.le_refl _)) (v := none) (fun _ => rfl)
  refine ⟨_, _, pre103 _ ?_, hrun, hended, _, _, rfl, ?_, (by show CHr Z own_EL s.vm s.heap T101.vm T101.heap; rw [hh]; exact ch102.trans (CHv.at (s := s) (vm0 := T101.vm) X101' hZ101 (own_EW hw) ch102.1)), hWr, hW1, hW2, hsame.mono (by decide) (by decide)⟩
  · show Steps p.tables e below (T101.setTop (mkF m 9 #[.val (.ref a1), .val (.ref a2)] [])) _
    exact X101'.returnOut hx Bd.returns (hb hby d4_9) hr
  · show QrmS1 Z a1 a2 kc h0 n0 _ T101.heap _
    exact ⟨rfl, N101, K101, Z101⟩
theorem d2_0 : decode method_3_code 0 = .ok (.iload_n 0, 1) := by decide +kernel
theorem d2_1 : decode method_3_code 1 = .ok (.iconst 3, 1) := by decide +kernel
theorem d2_2 : decode method_3_code 2 = .ok (.iand, 1) := by decide +kernel
theorem d2_3 : decode method_3_code 3 = .ok (.iconst 3, 1) := by decide +kernel
theorem d2_4 : decode method_3_code 4 = .ok (.irem, 1) := by decide +kernel
theorem d2_5 : decode method_3_code 5 = .ok (.ireturn, 1) := by decide +kernel
theorem pn_1 : plainName "com/example/cranfield/cranfield/model/DocumentEqualsPinLaw" = true := by first | (simp [plainName, overriddenIn]; done) | decide +kernel
theorem ef_rmLen (m : MethodId) (x0 : Int32) : entryFrame m #[(.int x0)] 1 = mkF m 0 #[.val (.int x0)] [] := by first | (simp [entryFrame, mkF, argsToLocals, Value.category]; done) | rfl
def QrmLen (Z : State) (p1 : Int32) (h0 : Heap) (n0 : Nat) (v : Option Value) (h : Heap) (L : List Loc) : Prop := v = some (.int (own_len p1)) ∧ Fr n0 L ∧ h = h0
set_option maxRecDepth 65536 in
set_option maxHeartbeats 40000000 in
theorem rmLen (l : Launch) (Z : State) (a0 : Array Value) (hw : ∀ d ∈ tables_1, d.before a0 Z = true) (ws : List Jvm.Cond) (p1 : Int32) (h0 : Heap) (n0 : Nat) (Z0 : n0 ≤ h0.size) :
    MetFree l (⟨"com/example/cranfield/cranfield/model/DocumentEqualsPinLaw", "len", "(I)I"⟩ : MethodName) (head1 (Jvm.Cond.code (⟨"com/example/cranfield/cranfield/model/DocumentEqualsPinLaw", "len", "(I)I"⟩ : MethodName) method_3_code 1 (some .int) :: ws) ({ frames := 0, cells := 0, slots := 0, locals := 0 } : Room)) (fun a U => a = #[(.int p1)] ∧ Z.Warmed39 U.vm ∧ U.heap = h0) (fun _ _ _ _ _ => True) (fun _ U o U' => ∃ v L, o = .returned v ∧ QrmLen Z p1 h0 n0 v U'.heap L ∧ FrameEnd U o U' L ({ frames := 0, cells := 0, slots := 0, locals := 0 } : Room).cells ({ frames := 0, cells := 0, slots := 0, locals := 0 } : Room).slots) := by
  refine MetFree.of_bodySF (plainFor_of_name pn_1) hisR ?_
  intro p e s m args below meth c s₁ Bd hml0 hP hK
  obtain ⟨rfl, hZ, hh⟩ := hP
  have hx := Bd.exec
  have hby := Bd.bytes
  have hml : c.maxLocals = 1 := hml0
  have hown : s.vm.findClass "com/example/cranfield/cranfield/model/DocumentEqualsPinLaw" = some m.cls := findClass_of_methodNamed Bd.named
  have hnm := (name_of_methodNamed Bd.named Bd.method).1
  have X0 : Stand p l e ({ frames := 0, cells := 0, slots := 0, locals := 0 } : Room) s m #[(.int p1)] below meth c s₁ [] 0 0 := Stand.of_body Bd
  have e0 : s₁.heap = h0 := by rw [← hh, Bd.state]; rfl
  have N0 := Fr.nil n0
  have pre0 : ∀ t_, Steps p.tables e below (s₁.setTop (mkF m 0 #[.val (.int p1)] [])) t_ → Steps p.tables e below (s₁.setTop (entryFrame m #[(.int p1)] 1)) t_ := fun t_ k_ => castTop (ef_rmLen m p1) k_
  have pre101 : ∀ t_, Steps p.tables e below (s₁.setTop (mkF m 5 #[.val (.int p1)] [(.int ((p1 &&& (3 : Int32)) % (3 : Int32)))])) t_ → Steps p.tables e below (s₁.setTop (entryFrame m #[(.int p1)] 1)) t_ := fun t_ k_ => pre0 _ (by
    show Steps p.tables e below (s₁.setTop (mkF m 0 #[.val (.int p1)] [])) _
    refine XS.iloadN X0.here hx rfl (hb hby d2_0) rfl ?_
    show Steps p.tables e below (s₁.setTop (mkF m 1 #[.val (.int p1)] [(.int p1)])) _
    refine XS.iconst X0.here hx rfl (hb hby d2_1) ?_
    show Steps p.tables e below (s₁.setTop (mkF m 2 #[.val (.int p1)] [(.int (3 : Int32)), (.int p1)])) _
    refine XS.iand X0.here hx rfl (hb hby d2_2) rfl ?_
    show Steps p.tables e below (s₁.setTop (mkF m 3 #[.val (.int p1)] [(.int (p1 &&& (3 : Int32)))])) _
    refine XS.iconst X0.here hx rfl (hb hby d2_3) ?_
    show Steps p.tables e below (s₁.setTop (mkF m 4 #[.val (.int p1)] [(.int (3 : Int32)), (.int (p1 &&& (3 : Int32)))])) _
    refine iremM X0 hx rfl (hb hby d2_4) rfl (by decide) ?_
    exact k_)
  obtain ⟨fs, hr, hrun, hended, hW, hsame⟩ := X0.leave (v := some (.int ((p1 &&& (3 : Int32)) % (3 : Int32)))) (fun h => by rw [Bd.returns] at h; cases h)
  refine ⟨_, _, pre101 _ ?_, hrun, hended, _, _, rfl, ?_, ⟨_, rfl⟩, hW, hsame.mono (by decide) (by decide)⟩
  · show Steps p.tables e below (s₁.setTop (mkF m 5 #[.val (.int p1)] [(.int ((p1 &&& (3 : Int32)) % (3 : Int32)))])) _
    exact retI X0 hx Bd.returns (hb hby d2_5) hr
  · show QrmLen Z p1 h0 n0 _ s₁.heap _
    rw [e0]
    exact ⟨rfl, N0, rfl⟩
theorem d3_0 : decode method_2_code 0 = .ok (.iload_n 0, 1) := by decide +kernel
theorem d3_1 : decode method_2_code 1 = .ok (.iconst 1, 1) := by decide +kernel
theorem d3_2 : decode method_2_code 2 = .ok (.iand, 1) := by decide +kernel
theorem d3_3 : decode method_2_code 3 = .ok (.ifCond .ne 7, 3) := by decide +kernel
theorem d3_6 : decode method_2_code 6 = .ok (.iload_n 1, 1) := by decide +kernel
theorem d3_7 : decode method_2_code 7 = .ok (.goto 4, 3) := by decide +kernel
theorem d3_10 : decode method_2_code 10 = .ok (.iload_n 2, 1) := by decide +kernel
theorem d3_11 : decode method_2_code 11 = .ok (.ireturn, 1) := by decide +kernel
theorem ef_rmCh (m : MethodId) (x0 : Int32) (x1 : Int32) (x2 : Int32) : entryFrame m #[(.int x0), (.int x1), (.int x2)] 3 = mkF m 0 #[.val (.int x0), .val (.int x1), .val (.int x2)] [] := by first | (simp [entryFrame, mkF, argsToLocals, Value.category]; done) | rfl
def QrmCh (Z : State) (p1 : Int32) (p2 : Int32) (p3 : Int32) (h0 : Heap) (n0 : Nat) (v : Option Value) (h : Heap) (L : List Loc) : Prop := v = some (.int (own_ch p1 p2 p3)) ∧ Fr n0 L ∧ h = h0
set_option maxRecDepth 65536 in
set_option maxHeartbeats 40000000 in
theorem rmCh (l : Launch) (Z : State) (a0 : Array Value) (hw : ∀ d ∈ tables_1, d.before a0 Z = true) (ws : List Jvm.Cond) (p1 : Int32) (p2 : Int32) (p3 : Int32) (h0 : Heap) (n0 : Nat) (Z0 : n0 ≤ h0.size) (b2 : own_b8 p2) (b3 : own_b8 p3) :
    MetFree l (⟨"com/example/cranfield/cranfield/model/DocumentEqualsPinLaw", "ch", "(ICC)C"⟩ : MethodName) (head1 (Jvm.Cond.code (⟨"com/example/cranfield/cranfield/model/DocumentEqualsPinLaw", "ch", "(ICC)C"⟩ : MethodName) method_2_code 3 (some .char) :: ws) ({ frames := 0, cells := 0, slots := 0, locals := 0 } : Room)) (fun a U => a = #[(.int p1), (.int p2), (.int p3)] ∧ Z.Warmed39 U.vm ∧ U.heap = h0) (fun _ _ _ _ _ => True) (fun _ U o U' => ∃ v L, o = .returned v ∧ QrmCh Z p1 p2 p3 h0 n0 v U'.heap L ∧ FrameEnd U o U' L ({ frames := 0, cells := 0, slots := 0, locals := 0 } : Room).cells ({ frames := 0, cells := 0, slots := 0, locals := 0 } : Room).slots) := by
  refine MetFree.of_bodySF (plainFor_of_name pn_1) hisR ?_
  intro p e s m args below meth c s₁ Bd hml0 hP hK
  obtain ⟨rfl, hZ, hh⟩ := hP
  have hx := Bd.exec
  have hby := Bd.bytes
  have hml : c.maxLocals = 3 := hml0
  have hown : s.vm.findClass "com/example/cranfield/cranfield/model/DocumentEqualsPinLaw" = some m.cls := findClass_of_methodNamed Bd.named
  have hnm := (name_of_methodNamed Bd.named Bd.method).1
  have X0 : Stand p l e ({ frames := 0, cells := 0, slots := 0, locals := 0 } : Room) s m #[(.int p1), (.int p2), (.int p3)] below meth c s₁ [] 0 0 := Stand.of_body Bd
  have e0 : s₁.heap = h0 := by rw [← hh, Bd.state]; rfl
  have N0 := Fr.nil n0
  have pre0 : ∀ t_, Steps p.tables e below (s₁.setTop (mkF m 0 #[.val (.int p1), .val (.int p2), .val (.int p3)] [])) t_ → Steps p.tables e below (s₁.setTop (entryFrame m #[(.int p1), (.int p2), (.int p3)] 3)) t_ := fun t_ k_ => castTop (ef_rmCh m p1 p2 p3) k_
  have pre101 : ∀ t_, Steps p.tables e below (s₁.setTop (mkF m 3 #[.val (.int p1), .val (.int p2), .val (.int p3)] [(.int (p1 &&& (1 : Int32)))])) t_ → Steps p.tables e below (s₁.setTop (entryFrame m #[(.int p1), (.int p2), (.int p3)] 3)) t_ := fun t_ k_ => pre0 _ (by
    show Steps p.tables e below (s₁.setTop (mkF m 0 #[.val (.int p1), .val (.int p2), .val (.int p3)] [])) _
    refine XS.iloadN X0.here hx rfl (hb hby d3_0) rfl ?_
    show Steps p.tables e below (s₁.setTop (mkF m 1 #[.val (.int p1), .val (.int p2), .val (.int p3)] [(.int p1)])) _
    refine XS.iconst X0.here hx rfl (hb hby d3_1) ?_
    show Steps p.tables e below (s₁.setTop (mkF m 2 #[.val (.int p1), .val (.int p2), .val (.int p3)] [(.int (1 : Int32)), (.int p1)])) _
    refine XS.iand X0.here hx rfl (hb hby d3_2) rfl ?_
    exact k_)
  by_cases hc : (p1 &&& (1 : Int32)) = (0 : Int32)
  · skip
    have pre102 : ∀ t_, Steps p.tables e below (s₁.setTop (mkF m 11 #[.val (.int p1), .val (.int p2), .val (.int p3)] [(.int p2)])) t_ → Steps p.tables e below (s₁.setTop (entryFrame m #[(.int p1), (.int p2), (.int p3)] 3)) t_ := fun t_ k_ => pre101 _ (by
      show Steps p.tables e below (s₁.setTop (mkF m 3 #[.val (.int p1), .val (.int p2), .val (.int p3)] [(.int (p1 &&& (1 : Int32)))])) _
      refine XS.ifNo X0.here hx rfl (hb hby d3_3) rfl ((if0 _ _).trans (teq hc).2) ?_
      show Steps p.tables e below (s₁.setTop (mkF m 6 #[.val (.int p1), .val (.int p2), .val (.int p3)] [])) _
      refine XS.iloadN X0.here hx rfl (hb hby d3_6) rfl ?_
      show Steps p.tables e below (s₁.setTop (mkF m 7 #[.val (.int p1), .val (.int p2), .val (.int p3)] [(.int p2)])) _
      refine XS.goto X0.here hx rfl (pc0 := 7) (pc' := 11) rfl (hb hby d3_7) (by decide) (by decide) ?_
      exact k_)
    obtain ⟨fs, hr, hrun, hended, hW, hsame⟩ := X0.leave (v := some (.int (nar .char p2))) (fun h => by rw [Bd.returns] at h; cases h)
    refine ⟨_, _, pre102 _ ?_, hrun, hended, _, _, rfl, ?_, ⟨_, rfl⟩, hW, hsame.mono (by decide) (by decide)⟩
    · show Steps p.tables e below (s₁.setTop (mkF m 11 #[.val (.int p1), .val (.int p2), .val (.int p3)] [(.int p2)])) _
      exact retN X0 hx (t := .char) Bd.returns (by simp) (hb hby d3_11) hr
    · show QrmCh Z p1 p2 p3 h0 n0 _ s₁.heap _
      rw [e0]
      exact ⟨by rw [own_ch, if_pos hc, own_narc b2], N0, rfl⟩
  · skip
    have pre103 : ∀ t_, Steps p.tables e below (s₁.setTop (mkF m 11 #[.val (.int p1), .val (.int p2), .val (.int p3)] [(.int p3)])) t_ → Steps p.tables e below (s₁.setTop (entryFrame m #[(.int p1), (.int p2), (.int p3)] 3)) t_ := fun t_ k_ => pre101 _ (by
      show Steps p.tables e below (s₁.setTop (mkF m 3 #[.val (.int p1), .val (.int p2), .val (.int p3)] [(.int (p1 &&& (1 : Int32)))])) _
      refine XS.ifYes X0.here hx rfl (pc0 := 3) (pc' := 10) rfl (hb hby d3_3) rfl ((if0 _ _).trans (feq hc).2) (by decide) (by decide) ?_
      show Steps p.tables e below (s₁.setTop (mkF m 10 #[.val (.int p1), .val (.int p2), .val (.int p3)] [])) _
      refine XS.iloadN X0.here hx rfl (hb hby d3_10) rfl ?_
      exact k_)
    obtain ⟨fs, hr, hrun, hended, hW, hsame⟩ := X0.leave (v := some (.int (nar .char p3))) (fun h => by rw [Bd.returns] at h; cases h)
    refine ⟨_, _, pre103 _ ?_, hrun, hended, _, _, rfl, ?_, ⟨_, rfl⟩, hW, hsame.mono (by decide) (by decide)⟩
    · show Steps p.tables e below (s₁.setTop (mkF m 11 #[.val (.int p1), .val (.int p2), .val (.int p3)] [(.int p3)])) _
      exact retN X0 hx (t := .char) Bd.returns (by simp) (hb hby d3_11) hr
    · show QrmCh Z p1 p2 p3 h0 n0 _ s₁.heap _
      rw [e0]
      exact ⟨by rw [own_ch, if_neg hc, own_narc b3], N0, rfl⟩
theorem pd_1 : parseMethodDescriptor "(I)I" = some ⟨[.int], some .int⟩ := by decide +kernel
theorem pd_2 : parseMethodDescriptor "(ICC)C" = some ⟨[.int, .char, .char], some .char⟩ := by decide +kernel
theorem pd_3 : parseMethodDescriptor "([C)V" = some ⟨[(.array .char)], none⟩ := by decide +kernel
theorem d1_0 : decode method_4_code 0 = .ok (.iload_n 0, 1) := by decide +kernel
theorem d1_1 : decode method_4_code 1 = .ok (.invokestatic 7, 3) := by decide +kernel
theorem d1_4 : decode method_4_code 4 = .ok (.istore_n 3, 1) := by decide +kernel
theorem d1_5 : decode method_4_code 5 = .ok (.iload_n 0, 1) := by decide +kernel
theorem d1_6 : decode method_4_code 6 = .ok (.iconst 2, 1) := by decide +kernel
theorem d1_7 : decode method_4_code 7 = .ok (.ishr, 1) := by decide +kernel
theorem d1_8 : decode method_4_code 8 = .ok (.iload_n 1, 1) := by decide +kernel
theorem d1_9 : decode method_4_code 9 = .ok (.iload_n 2, 1) := by decide +kernel
theorem d1_10 : decode method_4_code 10 = .ok (.invokestatic 13, 3) := by decide +kernel
theorem d1_13 : decode method_4_code 13 = .ok (.istore 4, 2) := by decide +kernel
theorem d1_15 : decode method_4_code 15 = .ok (.iload_n 0, 1) := by decide +kernel
theorem d1_16 : decode method_4_code 16 = .ok (.iconst 3, 1) := by decide +kernel
theorem d1_17 : decode method_4_code 17 = .ok (.ishr, 1) := by decide +kernel
theorem d1_18 : decode method_4_code 18 = .ok (.iload_n 1, 1) := by decide +kernel
theorem d1_19 : decode method_4_code 19 = .ok (.iload_n 2, 1) := by decide +kernel
theorem d1_20 : decode method_4_code 20 = .ok (.invokestatic 13, 3) := by decide +kernel
theorem d1_23 : decode method_4_code 23 = .ok (.istore 5, 2) := by decide +kernel
theorem d1_25 : decode method_4_code 25 = .ok (.iload_n 3, 1) := by decide +kernel
theorem d1_26 : decode method_4_code 26 = .ok (.ifCond .ne 14, 3) := by decide +kernel
theorem d1_29 : decode method_4_code 29 = .ok (.new 17, 3) := by decide +kernel
theorem d1_32 : decode method_4_code 32 = .ok (.dup, 1) := by decide +kernel
theorem d1_33 : decode method_4_code 33 = .ok (.iconst 0, 1) := by decide +kernel
theorem d1_34 : decode method_4_code 34 = .ok (.newarray .char, 2) := by decide +kernel
theorem d1_36 : decode method_4_code 36 = .ok (.invokespecial 19, 3) := by decide +kernel
theorem d1_39 : decode method_4_code 39 = .ok (.areturn, 1) := by decide +kernel
theorem d1_40 : decode method_4_code 40 = .ok (.iload_n 3, 1) := by decide +kernel
theorem d1_41 : decode method_4_code 41 = .ok (.iconst 1, 1) := by decide +kernel
theorem d1_42 : decode method_4_code 42 = .ok (.if_icmp .ne 19, 3) := by decide +kernel
theorem d1_45 : decode method_4_code 45 = .ok (.new 17, 3) := by decide +kernel
theorem d1_48 : decode method_4_code 48 = .ok (.dup, 1) := by decide +kernel
theorem d1_49 : decode method_4_code 49 = .ok (.iconst 1, 1) := by decide +kernel
theorem d1_50 : decode method_4_code 50 = .ok (.newarray .char, 2) := by decide +kernel
theorem d1_52 : decode method_4_code 52 = .ok (.dup, 1) := by decide +kernel
theorem d1_53 : decode method_4_code 53 = .ok (.iconst 0, 1) := by decide +kernel
theorem d1_54 : decode method_4_code 54 = .ok (.iload 4, 2) := by decide +kernel
theorem d1_56 : decode method_4_code 56 = .ok (.castore, 1) := by decide +kernel
theorem d1_57 : decode method_4_code 57 = .ok (.invokespecial 19, 3) := by decide +kernel
theorem d1_60 : decode method_4_code 60 = .ok (.areturn, 1) := by decide +kernel
theorem d1_61 : decode method_4_code 61 = .ok (.new 17, 3) := by decide +kernel
theorem d1_64 : decode method_4_code 64 = .ok (.dup, 1) := by decide +kernel
theorem d1_65 : decode method_4_code 65 = .ok (.iconst 2, 1) := by decide +kernel
theorem d1_66 : decode method_4_code 66 = .ok (.newarray .char, 2) := by decide +kernel
theorem d1_68 : decode method_4_code 68 = .ok (.dup, 1) := by decide +kernel
theorem d1_69 : decode method_4_code 69 = .ok (.iconst 0, 1) := by decide +kernel
theorem d1_70 : decode method_4_code 70 = .ok (.iload 4, 2) := by decide +kernel
theorem d1_72 : decode method_4_code 72 = .ok (.castore, 1) := by decide +kernel
theorem d1_73 : decode method_4_code 73 = .ok (.dup, 1) := by decide +kernel
theorem d1_74 : decode method_4_code 74 = .ok (.iconst 1, 1) := by decide +kernel
theorem d1_75 : decode method_4_code 75 = .ok (.iload 5, 2) := by decide +kernel
theorem d1_77 : decode method_4_code 77 = .ok (.castore, 1) := by decide +kernel
theorem d1_78 : decode method_4_code 78 = .ok (.invokespecial 19, 3) := by decide +kernel
theorem d1_81 : decode method_4_code 81 = .ok (.areturn, 1) := by decide +kernel
theorem ef_rmStr (m : MethodId) (x0 : Int32) (x1 : Int32) (x2 : Int32) : entryFrame m #[(.int x0), (.int x1), (.int x2)] 6 = mkF m 0 #[.val (.int x0), .val (.int x1), .val (.int x2), .unset, .unset, .unset] [] := by first | (simp [entryFrame, mkF, argsToLocals, Value.category]; done) | rfl
def QrmStr (Z : State) (p1 : Int32) (p2 : Int32) (p3 : Int32) (zc : Int32) (h0 : Heap) (n0 : Nat) (v : Option Value) (h : Heap) (L : List Loc) : Prop := ∃ x : Addr, v = some (.ref x) ∧ Fr n0 L ∧ Keep h0 h [] ∧ own_Str Z h x (own_ds p1 p2 p3) ∧ h0.size ≤ x
set_option maxRecDepth 65536 in
set_option maxHeartbeats 40000000 in
theorem rmStr (l : Launch) (Z : State) (a0 : Array Value) (hw : ∀ d ∈ tables_1, d.before a0 Z = true) (ws : List Jvm.Cond) (p1 : Int32) (p2 : Int32) (p3 : Int32) (zc : Int32) (h0 : Heap) (n0 : Nat) (Z0 : n0 ≤ h0.size) (O : Old Z n0 h0) (S_c : Sta Z Z.heap "java/lang/String" "COMPACT_STRINGS" "Z" (.int zc)) (hzc : ¬ zc = 0) (b2 : own_b8 p2) (b3 : own_b8 p3) :
    MetFree l (⟨"com/example/cranfield/cranfield/model/DocumentEqualsPinLaw", "str", "(ICC)Ljava/lang/String;"⟩ : MethodName) (head1 (Jvm.Cond.code (⟨"com/example/cranfield/cranfield/model/DocumentEqualsPinLaw", "str", "(ICC)Ljava/lang/String;"⟩ : MethodName) method_4_code 6 (some (.object "java/lang/String")) :: ws) ({ frames := 4, cells := 6, slots := 12, locals := 66 } : Room)) (fun a U => a = #[(.int p1), (.int p2), (.int p3)] ∧ Z.Warmed39 U.vm ∧ U.heap = h0 ∧ CHv Z own_EL U.vm h0) (fun _ _ _ _ _ => True) (fun _ U o U' => ∃ v L, o = .returned v ∧ QrmStr Z p1 p2 p3 zc h0 n0 v U'.heap L ∧ CHr Z own_EL U.vm U.heap U'.vm U'.heap ∧ ReturnedEndW U o U' L ({ frames := 4, cells := 6, slots := 12, locals := 66 } : Room).cells ({ frames := 4, cells := 6, slots := 12, locals := 66 } : Room).slots) := by
  refine MetFree.of_bodySF (plainFor_of_name pn_1) hisR ?_
  intro p e s m args below meth c s₁ Bd hml0 hP hK
  obtain ⟨rfl, hZ, hh, hH⟩ := hP
  have hx := Bd.exec
  have hby := Bd.bytes
  have hml : c.maxLocals = 6 := hml0
  have hown : s.vm.findClass "com/example/cranfield/cranfield/model/DocumentEqualsPinLaw" = some m.cls := findClass_of_methodNamed Bd.named
  have hnm := (name_of_methodNamed Bd.named Bd.method).1
  have X0 : Stand p l e ({ frames := 4, cells := 6, slots := 12, locals := 66 } : Room) s m #[(.int p1), (.int p2), (.int p3)] below meth c s₁ [] 0 0 := Stand.of_body Bd
  have e0 : s₁.heap = h0 := by rw [← hh, Bd.state]; rfl
  have N0 := Fr.nil n0
  have pre0 : ∀ t_, Steps p.tables e below (s₁.setTop (mkF m 0 #[.val (.int p1), .val (.int p2), .val (.int p3), .unset, .unset, .unset] [])) t_ → Steps p.tables e below (s₁.setTop (entryFrame m #[(.int p1), (.int p2), (.int p3)] 6)) t_ := fun t_ k_ => castTop (ef_rmStr m p1 p2 p3) k_
  obtain ⟨_, _, ⟨T101, L101, k101, n101⟩, -, X101, ⟨Lc101, hQ101, l101, y101, z101⟩, st101⟩ := Jvm.LawKit.callS X0 hx (y := (⟨"com/example/cranfield/cranfield/model/DocumentEqualsPinLaw", "len", "(I)I"⟩ : MethodName)) hown (mvT hZ (hw _ (List.mem_of_getElem? (i := 7) rfl))) (mvT hZ (hw _ (List.mem_of_getElem? (i := 8) rfl))) (mvT hZ (hw _ (List.mem_of_getElem? (i := 5) rfl))) (mvT hZ (hw _ (List.mem_of_getElem? (i := 9) rfl))) (by decide) (backOf (W := 0) (rmLen l Z a0 hw [] p1 h0 n0 Z0 ) hZ (hw _ (List.mem_of_getElem? (i := 9) rfl)) (hw _ (List.mem_of_getElem? (i := 5) rfl)) (by decide) (by decide)) (g := (mkF m 1 #[.val (.int p1), .val (.int p2), .val (.int p3), .unset, .unset, .unset] [(.int p1)])) rfl (by rw [hml]; rfl) (argsL := [(.int p1)]) (rest := []) (lenOf pd_1 rfl) rfl (by show 2 * 0 + _ ≤ _; exact Nat.le_of_eq rfl) (hb hby d1_1) (fun _ _ => ⟨rfl, e0, (by decide : 0 + 0 ≤ _), (by decide : 0 + 0 ≤ _)⟩)
  dsimp only [Pt.U, Pt.locs, Pt.cells, Pt.slots] at X101 l101 y101 z101 st101 hQ101
  subst l101 y101 z101
  obtain ⟨rfl, N101q, e101⟩ := hQ101
  have N101 := Fr.app N0 N101q
  obtain ⟨ll, hv_ll, pre102⟩ : ∃ z_ : Int32, z_ = (own_len p1) ∧ ∀ t_, Steps p.tables e below (T101.setTop (mkF m 4 #[.val (.int p1), .val (.int p2), .val (.int p3), .unset, .unset, .unset] [(.int z_)])) t_ → Steps p.tables e below (s₁.setTop (entryFrame m #[(.int p1), (.int p2), (.int p3)] 6)) t_ := ⟨_, rfl, fun t_ k_ => pre0 _ (by
    show Steps p.tables e below (s₁.setTop (mkF m 0 #[.val (.int p1), .val (.int p2), .val (.int p3), .unset, .unset, .unset] [])) _
    refine XS.iloadN X0.here hx rfl (hb hby d1_0) rfl ?_
    show Steps p.tables e below (s₁.setTop (mkF m 1 #[.val (.int p1), .val (.int p2), .val (.int p3), .unset, .unset, .unset] [(.int p1)])) _
    refine st101 _ ?_
    exact k_)⟩
  obtain ⟨_, _, ⟨T103, L103, k103, n103⟩, -, X103, ⟨Lc103, hQ103, l103, y103, z103⟩, st103⟩ := Jvm.LawKit.callS X101 hx (y := (⟨"com/example/cranfield/cranfield/model/DocumentEqualsPinLaw", "ch", "(ICC)C"⟩ : MethodName)) hown (mvT hZ (hw _ (List.mem_of_getElem? (i := 10) rfl))) (mvT hZ (hw _ (List.mem_of_getElem? (i := 11) rfl))) (mvT hZ (hw _ (List.mem_of_getElem? (i := 5) rfl))) (mvT hZ (hw _ (List.mem_of_getElem? (i := 12) rfl))) (by decide) (backOf (W := 0) (rmCh l Z a0 hw [] (p1 >>> ((2 : Int32) &&& 31)) p2 p3 h0 n0 Z0 b2 b3) hZ (hw _ (List.mem_of_getElem? (i := 12) rfl)) (hw _ (List.mem_of_getElem? (i := 5) rfl)) (by decide) (by decide)) (g := (mkF m 10 #[.val (.int p1), .val (.int p2), .val (.int p3), .val (.int ll), .unset, .unset] [(.int p3), (.int p2), (.int (p1 >>> ((2 : Int32) &&& 31)))])) rfl (by rw [hml]; rfl) (argsL := [(.int (p1 >>> ((2 : Int32) &&& 31))), (.int p2), (.int p3)]) (rest := []) (lenOf pd_2 rfl) rfl (by show 2 * 0 + _ ≤ _; exact Nat.le_of_eq rfl) (hb hby d1_10) (fun _ _ => ⟨rfl, e101, (by decide : 0 + 0 ≤ _), (by decide : 0 + 0 ≤ _)⟩)
  dsimp only [Pt.U, Pt.locs, Pt.cells, Pt.slots] at X103 l103 y103 z103 st103 hQ103
  subst l103 y103 z103
  obtain ⟨rfl, N103q, e103⟩ := hQ103
  have N103 := Fr.app N101 N103q
  obtain ⟨k0, hv_k0, pre104⟩ : ∃ z_ : Int32, z_ = (own_ch (p1 >>> ((2 : Int32) &&& 31)) p2 p3) ∧ ∀ t_, Steps p.tables e below (T103.setTop (mkF m 13 #[.val (.int p1), .val (.int p2), .val (.int p3), .val (.int ll), .unset, .unset] [(.int z_)])) t_ → Steps p.tables e below (s₁.setTop (entryFrame m #[(.int p1), (.int p2), (.int p3)] 6)) t_ := ⟨_, rfl, fun t_ k_ => pre102 _ (by
    show Steps p.tables e below (T101.setTop (mkF m 4 #[.val (.int p1), .val (.int p2), .val (.int p3), .unset, .unset, .unset] [(.int ll)])) _
    refine XS.istoreN X101.here hx rfl (hb hby d1_4) rfl (l' := #[.val (.int p1), .val (.int p2), .val (.int p3), .val (.int ll), .unset, .unset]) rfl ?_
    show Steps p.tables e below (T101.setTop (mkF m 5 #[.val (.int p1), .val (.int p2), .val (.int p3), .val (.int ll), .unset, .unset] [])) _
    refine XS.iloadN X101.here hx rfl (hb hby d1_5) rfl ?_
    show Steps p.tables e below (T101.setTop (mkF m 6 #[.val (.int p1), .val (.int p2), .val (.int p3), .val (.int ll), .unset, .unset] [(.int p1)])) _
    refine XS.iconst X101.here hx rfl (hb hby d1_6) ?_
    show Steps p.tables e below (T101.setTop (mkF m 7 #[.val (.int p1), .val (.int p2), .val (.int p3), .val (.int ll), .unset, .unset] [(.int (2 : Int32)), (.int p1)])) _
    refine XS.ishr X101.here hx rfl (hb hby d1_7) rfl ?_
    show Steps p.tables e below (T101.setTop (mkF m 8 #[.val (.int p1), .val (.int p2), .val (.int p3), .val (.int ll), .unset, .unset] [(.int (p1 >>> ((2 : Int32) &&& 31)))])) _
    refine XS.iloadN X101.here hx rfl (hb hby d1_8) rfl ?_
    show Steps p.tables e below (T101.setTop (mkF m 9 #[.val (.int p1), .val (.int p2), .val (.int p3), .val (.int ll), .unset, .unset] [(.int p2), (.int (p1 >>> ((2 : Int32) &&& 31)))])) _
    refine XS.iloadN X101.here hx rfl (hb hby d1_9) rfl ?_
    show Steps p.tables e below (T101.setTop (mkF m 10 #[.val (.int p1), .val (.int p2), .val (.int p3), .val (.int ll), .unset, .unset] [(.int p3), (.int p2), (.int (p1 >>> ((2 : Int32) &&& 31)))])) _
    refine st103 _ ?_
    exact k_)⟩
  obtain ⟨_, _, ⟨T105, L105, k105, n105⟩, -, X105, ⟨Lc105, hQ105, l105, y105, z105⟩, st105⟩ := Jvm.LawKit.callS X103 hx (y := (⟨"com/example/cranfield/cranfield/model/DocumentEqualsPinLaw", "ch", "(ICC)C"⟩ : MethodName)) hown (mvT hZ (hw _ (List.mem_of_getElem? (i := 10) rfl))) (mvT hZ (hw _ (List.mem_of_getElem? (i := 11) rfl))) (mvT hZ (hw _ (List.mem_of_getElem? (i := 5) rfl))) (mvT hZ (hw _ (List.mem_of_getElem? (i := 12) rfl))) (by decide) (backOf (W := 0) (rmCh l Z a0 hw [] (p1 >>> ((3 : Int32) &&& 31)) p2 p3 h0 n0 Z0 b2 b3) hZ (hw _ (List.mem_of_getElem? (i := 12) rfl)) (hw _ (List.mem_of_getElem? (i := 5) rfl)) (by decide) (by decide)) (g := (mkF m 20 #[.val (.int p1), .val (.int p2), .val (.int p3), .val (.int ll), .val (.int k0), .unset] [(.int p3), (.int p2), (.int (p1 >>> ((3 : Int32) &&& 31)))])) rfl (by rw [hml]; rfl) (argsL := [(.int (p1 >>> ((3 : Int32) &&& 31))), (.int p2), (.int p3)]) (rest := []) (lenOf pd_2 rfl) rfl (by show 2 * 0 + _ ≤ _; exact Nat.le_of_eq rfl) (hb hby d1_20) (fun _ _ => ⟨rfl, e103, (by decide : 0 + 0 ≤ _), (by decide : 0 + 0 ≤ _)⟩)
  dsimp only [Pt.U, Pt.locs, Pt.cells, Pt.slots] at X105 l105 y105 z105 st105 hQ105
  subst l105 y105 z105
  obtain ⟨rfl, N105q, e105⟩ := hQ105
  have N105 := Fr.app N103 N105q
  obtain ⟨k1, hv_k1, pre106⟩ : ∃ z_ : Int32, z_ = (own_ch (p1 >>> ((3 : Int32) &&& 31)) p2 p3) ∧ ∀ t_, Steps p.tables e below (T105.setTop (mkF m 23 #[.val (.int p1), .val (.int p2), .val (.int p3), .val (.int ll), .val (.int k0), .unset] [(.int z_)])) t_ → Steps p.tables e below (s₁.setTop (entryFrame m #[(.int p1), (.int p2), (.int p3)] 6)) t_ := ⟨_, rfl, fun t_ k_ => pre104 _ (by
    show Steps p.tables e below (T103.setTop (mkF m 13 #[.val (.int p1), .val (.int p2), .val (.int p3), .val (.int ll), .unset, .unset] [(.int k0)])) _
    refine XS.istore X103.here hx rfl (hb hby d1_13) rfl (l' := #[.val (.int p1), .val (.int p2), .val (.int p3), .val (.int ll), .val (.int k0), .unset]) rfl ?_
    show Steps p.tables e below (T103.setTop (mkF m 15 #[.val (.int p1), .val (.int p2), .val (.int p3), .val (.int ll), .val (.int k0), .unset] [])) _
    refine XS.iloadN X103.here hx rfl (hb hby d1_15) rfl ?_
    show Steps p.tables e below (T103.setTop (mkF m 16 #[.val (.int p1), .val (.int p2), .val (.int p3), .val (.int ll), .val (.int k0), .unset] [(.int p1)])) _
    refine XS.iconst X103.here hx rfl (hb hby d1_16) ?_
    show Steps p.tables e below (T103.setTop (mkF m 17 #[.val (.int p1), .val (.int p2), .val (.int p3), .val (.int ll), .val (.int k0), .unset] [(.int (3 : Int32)), (.int p1)])) _
    refine XS.ishr X103.here hx rfl (hb hby d1_17) rfl ?_
    show Steps p.tables e below (T103.setTop (mkF m 18 #[.val (.int p1), .val (.int p2), .val (.int p3), .val (.int ll), .val (.int k0), .unset] [(.int (p1 >>> ((3 : Int32) &&& 31)))])) _
    refine XS.iloadN X103.here hx rfl (hb hby d1_18) rfl ?_
    show Steps p.tables e below (T103.setTop (mkF m 19 #[.val (.int p1), .val (.int p2), .val (.int p3), .val (.int ll), .val (.int k0), .unset] [(.int p2), (.int (p1 >>> ((3 : Int32) &&& 31)))])) _
    refine XS.iloadN X103.here hx rfl (hb hby d1_19) rfl ?_
    show Steps p.tables e below (T103.setTop (mkF m 20 #[.val (.int p1), .val (.int p2), .val (.int p3), .val (.int ll), .val (.int k0), .unset] [(.int p3), (.int p2), (.int (p1 >>> ((3 : Int32) &&& 31)))])) _
    refine st105 _ ?_
    exact k_)⟩
  have c0 : own_b8 k0 := by rw [hv_k0]; exact own_ch8 b2 b3
  have c1 : own_b8 k1 := by rw [hv_k1]; exact own_ch8 b2 b3
  have eds : own_ds p1 p2 p3 = own_cs ll k0 k1 := by rw [own_ds, ← hv_ll, ← hv_k0, ← hv_k1]
  have pre107 : ∀ t_, Steps p.tables e below (T105.setTop (mkF m 26 #[.val (.int p1), .val (.int p2), .val (.int p3), .val (.int ll), .val (.int k0), .val (.int k1)] [(.int ll)])) t_ → Steps p.tables e below (s₁.setTop (entryFrame m #[(.int p1), (.int p2), (.int p3)] 6)) t_ := fun t_ k_ => pre106 _ (by
    show Steps p.tables e below (T105.setTop (mkF m 23 #[.val (.int p1), .val (.int p2), .val (.int p3), .val (.int ll), .val (.int k0), .unset] [(.int k1)])) _
    refine XS.istore X105.here hx rfl (hb hby d1_23) rfl (l' := #[.val (.int p1), .val (.int p2), .val (.int p3), .val (.int ll), .val (.int k0), .val (.int k1)]) rfl ?_
    show Steps p.tables e below (T105.setTop (mkF m 25 #[.val (.int p1), .val (.int p2), .val (.int p3), .val (.int ll), .val (.int k0), .val (.int k1)] [])) _
    refine XS.iloadN X105.here hx rfl (hb hby d1_25) rfl ?_
    exact k_)
  by_cases hc0 : ll = (0 : Int32)
  · skip
    obtain ⟨T108, h108, X108, e108, Ext_x, E_x, D_x, -, st108⟩ := newO X105 hx hZ hown (hw _ (List.mem_of_getElem? (i := 13) rfl)) (hw _ (List.mem_of_getElem? (i := 14) rfl)) (hw _ (List.mem_of_getElem? (i := 15) rfl)) e105 (g := (mkF m 29 #[.val (.int p1), .val (.int p2), .val (.int p3), .val (.int ll), .val (.int k0), .val (.int k1)] [])) rfl (hb hby d1_29) (by decide) (by decide)
    obtain ⟨x, eq_x⟩ : ∃ z, z = h0.size := ⟨_, rfl⟩
    rw [← eq_x] at E_x D_x st108
    have g_x : n0 ≤ x := Nat.le_trans Z0 (Nat.le_of_eq eq_x.symm)
    have O_109 := O.ext Ext_x
    have Z110 : n0 ≤ h108.size := Nat.le_trans Z0 (Ext_x.1)
    have ch111 := (CHr.refl hH).trans (CHr.ext Ext_x (CHr.refl hH).1)
    have Fv_x : Fld Z h108 x "java/lang/String" "value" "[B" .null := D_x (Or.inr (hw _ (List.mem_of_getElem? (i := 29) rfl))) (ty := (.array .byte)) (by decide)
    have Fc_x : Fld Z h108 x "java/lang/String" "coder" "B" (.int (0 : Int32)) := D_x (Or.inr (hw _ (List.mem_of_getElem? (i := 30) rfl))) (ty := .byte) (by decide)
    have K0_x := (Keep.refl h0 []).ext Ext_x
    obtain ⟨T112, h112, k_ch, X112, e112, Ext_ch, A_ch, st112⟩ := newP X108 hx hZ (hw _ (List.mem_of_getElem? (i := 16) rfl)) e108 (g := (mkF m 34 #[.val (.int p1), .val (.int p2), .val (.int p3), .val (.int ll), .val (.int k0), .val (.int k1)] [(.int (0 : Int32)), (.ref x), (.ref x)])) rfl (hb hby d1_34) rfl (by decide) (cap := 0) (by decide) (by decide) (by decide) (by decide)
    obtain ⟨ch, eq_ch⟩ : ∃ z, z = h108.size := ⟨_, rfl⟩
    rw [← eq_ch] at A_ch st112
    have g_ch : n0 ≤ ch := Nat.le_trans Z110 (Nat.le_of_eq eq_ch.symm)
    have O_113 := O_109.ext Ext_ch
    have ne_x_ch : x ≠ ch := Nat.ne_of_lt (Nat.lt_of_lt_of_le E_x.lt (Nat.le_of_eq eq_ch.symm))
    have E_x_114 := E_x.ext Ext_ch
    have Fv_x_115 := Fv_x.ext Ext_ch
    have Fc_x_116 := Fc_x.ext Ext_ch
    have KK_x_117 := K0_x.ext Ext_ch
    have Z118 : n0 ≤ h112.size := Nat.le_trans Z110 (Ext_ch.1)
    have ch119 := ch111.trans (CHr.ext Ext_ch ch111.1)
    have V_ch : Arv Z h112 ch k_ch .char (0 : Int32) [] (.int (0 : Int32)) := Arv.new A_ch (by decide)
    have sz_ch : h0.size ≤ ch := Nat.le_trans K0_x.1 (Nat.le_of_eq eq_ch.symm)
    obtain ⟨_, _, ⟨T120, L120, k120, n120⟩, -, X120, hS120, hle120, ⟨Lc120, hQ120, l120, y120, z120, hC120⟩, st120⟩ := Jvm.Stand.specialBackS (s := (s.setVm s.vm)) X112 hx (y := (⟨"java/lang/String", "<init>", "([C)V"⟩ : MethodName)) rfl hown (mvT hZ (hw _ (List.mem_of_getElem? (i := 17) rfl))) (mvT hZ (hw _ (List.mem_of_getElem? (i := 18) rfl))) (mvT hZ (hw _ (List.mem_of_getElem? (i := 19) rfl))) (by decide) (backOfSH (s := s) (vm0 := s.vm) (W := 1) (rmS1 l Z a0 hw [] x ch k_ch h112 n0 Z118 E_x_114 Fv_x_115 Fc_x_116 g_x V_ch) hZ (hw _ (List.mem_of_getElem? (i := 19) rfl)) (hw _ (List.mem_of_getElem? (i := 15) rfl)) (by decide) (by decide) (own_EW hw) ch119.1) (g := (mkF m 36 #[.val (.int p1), .val (.int p2), .val (.int p3), .val (.int ll), .val (.int k0), .val (.int k1)] [(.ref ch), (.ref x), (.ref x)])) rfl (by rw [hml]; rfl) (Steps.refl _) (a := x) (argsL := [(.ref ch)]) (rest := [(.ref x)]) (lenOf pd_3 rfl) rfl (by show 2 * 0 + _ ≤ _; exact Nat.le_of_eq rfl) (hb hby d1_36) (fun _ _ => ⟨rfl, e112, (by decide : 2 + 4 ≤ _), (by decide : 4 + 8 ≤ _)⟩)
    dsimp only [Pt.U, Pt.locs, Pt.cells, Pt.slots] at X120 l120 y120 z120 st120 hQ120 hS120 hle120 hC120
    subst l120 y120 z120
    have hle120' : h112.size ≤ T120.heap.size := by have q := hle120; rw [e112] at q; exact q
    obtain ⟨X120', hS120', hZ120, hown120⟩ := rebS (s := s) (vm0 := s.vm) ((State.WarmedH.refl s).since 0) (Nat.zero_le _) X120 hS120 hle120' hZ hown
    obtain ⟨rfl, N120q, K120, tb120, kb120, Es120, Vs120, Cs120, As120⟩ := hQ120
    have N120 := Fr.app N105 N120q
    have ch121 := ch119.trans hC120
    have Str_x : own_Str Z T120.heap x [] := ⟨tb120, kb120, 0, 0, [], Es120, Vs120, Cs120, As120, Or.inl ⟨rfl, rfl, rfl, by simp⟩, by simp, by simp⟩
    have K_x := KK_x_117.trans K120 (allS (Or.inr (Nat.le_of_eq eq_x.symm)) all0)
    have Z122 : n0 ≤ T120.heap.size := Nat.le_trans Z118 (K120.1)
    have pre123 : ∀ t_, Steps p.tables e below (T120.setTop (mkF m 39 #[.val (.int p1), .val (.int p2), .val (.int p3), .val (.int ll), .val (.int k0), .val (.int k1)] [(.ref x)])) t_ → Steps p.tables e below (s₁.setTop (entryFrame m #[(.int p1), (.int p2), (.int p3)] 6)) t_ := fun t_ k_ => pre107 _ (by
      show Steps p.tables e below (T105.setTop (mkF m 26 #[.val (.int p1), .val (.int p2), .val (.int p3), .val (.int ll), .val (.int k0), .val (.int k1)] [(.int ll)])) _
      refine XS.ifNo X105.here hx rfl (hb hby d1_26) rfl ((if0 _ _).trans (teq hc0).2) ?_
      show Steps p.tables e below (T105.setTop (mkF m 29 #[.val (.int p1), .val (.int p2), .val (.int p3), .val (.int ll), .val (.int k0), .val (.int k1)] [])) _
      refine st108 _ ?_
      show Steps p.tables e below (T108.setTop (mkF m 32 #[.val (.int p1), .val (.int p2), .val (.int p3), .val (.int ll), .val (.int k0), .val (.int k1)] [(.ref x)])) _
      refine XS.dup X108.here hx rfl (hb hby d1_32) rfl rfl ?_
      show Steps p.tables e below (T108.setTop (mkF m 33 #[.val (.int p1), .val (.int p2), .val (.int p3), .val (.int ll), .val (.int k0), .val (.int k1)] [(.ref x), (.ref x)])) _
      refine XS.iconst X108.here hx rfl (hb hby d1_33) ?_
      show Steps p.tables e below (T108.setTop (mkF m 34 #[.val (.int p1), .val (.int p2), .val (.int p3), .val (.int ll), .val (.int k0), .val (.int k1)] [(.int (0 : Int32)), (.ref x), (.ref x)])) _
      refine st112 _ ?_
      show Steps p.tables e below (T112.setTop (mkF m 36 #[.val (.int p1), .val (.int p2), .val (.int p3), .val (.int ll), .val (.int k0), .val (.int k1)] [(.ref ch), (.ref x), (.ref x)])) _
      refine st120.trans ?_
      exact k_)
    obtain ⟨fs, hr, hrun, hended, hWr, hW1, hW2, hsame⟩ := Jvm.Stand.leaveW (s := s) X120' hS120' (by exact (Nat.le_refl _)) (v := some (.ref x)) (fun h => by rw [Bd.returns] at h; cases h)
    refine ⟨_, _, pre123 _ ?_, hrun, hended, _, _, rfl, ?_, (by show CHr Z own_EL s.vm s.heap T120.vm T120.heap; rw [hh]; exact ch121.trans (CHv.at (s := s) (vm0 := T120.vm) X120' hZ120 (own_EW hw) ch121.1)), hWr, hW1, hW2, hsame.mono (by decide) (by decide)⟩
    · show Steps p.tables e below (T120.setTop (mkF m 39 #[.val (.int p1), .val (.int p2), .val (.int p3), .val (.int ll), .val (.int k0), .val (.int k1)] [(.ref x)])) _
      jvm_step X120'.here [X120'.here.top, hx, (hb hby d1_39), X120'.method', Bd.returns, Value.isRef, FieldType.isReference]
      first | (intro acts; rw [hr _ acts rfl rfl rfl]) | rw [hr _ _ rfl rfl rfl]
      exact Steps.refl _
    · show QrmStr Z p1 p2 p3 zc h0 n0 _ T120.heap _
      exact ⟨x, rfl, N120, K_x, by rw [eds, own_cs, if_pos hc0]; exact Str_x, Nat.le_of_eq eq_x.symm⟩
  · skip
    have pre124 : ∀ t_, Steps p.tables e below (T105.setTop (mkF m 42 #[.val (.int p1), .val (.int p2), .val (.int p3), .val (.int ll), .val (.int k0), .val (.int k1)] [(.int (1 : Int32)), (.int ll)])) t_ → Steps p.tables e below (s₁.setTop (entryFrame m #[(.int p1), (.int p2), (.int p3)] 6)) t_ := fun t_ k_ => pre107 _ (by
      show Steps p.tables e below (T105.setTop (mkF m 26 #[.val (.int p1), .val (.int p2), .val (.int p3), .val (.int ll), .val (.int k0), .val (.int k1)] [(.int ll)])) _
      refine XS.ifYes X105.here hx rfl (pc0 := 26) (pc' := 40) rfl (hb hby d1_26) rfl ((if0 _ _).trans (feq hc0).2) (by decide) (by decide) ?_
      show Steps p.tables e below (T105.setTop (mkF m 40 #[.val (.int p1), .val (.int p2), .val (.int p3), .val (.int ll), .val (.int k0), .val (.int k1)] [])) _
      refine XS.iloadN X105.here hx rfl (hb hby d1_40) rfl ?_
      show Steps p.tables e below (T105.setTop (mkF m 41 #[.val (.int p1), .val (.int p2), .val (.int p3), .val (.int ll), .val (.int k0), .val (.int k1)] [(.int ll)])) _
      refine XS.iconst X105.here hx rfl (hb hby d1_41) ?_
      exact k_)
    by_cases hc1 : ll = (1 : Int32)
    · skip
      have e2 : nar .char k0 = k0 := own_narc c0
      have e3 : nar .char k1 = k1 := own_narc c1
      have lat : ∀ c ∈ [nar .char k0], ¬ c < 0 ∧ ¬ (255 : Int32) < c := by
        rw [e2]
        intro c hc
        simp only [List.mem_cons, List.not_mem_nil, or_false] at hc
        rcases hc with rfl
        · exact c0
      obtain ⟨T125, h125, X125, e125, Ext_x, E_x, D_x, -, st125⟩ := newO X105 hx hZ hown (hw _ (List.mem_of_getElem? (i := 13) rfl)) (hw _ (List.mem_of_getElem? (i := 14) rfl)) (hw _ (List.mem_of_getElem? (i := 15) rfl)) e105 (g := (mkF m 45 #[.val (.int p1), .val (.int p2), .val (.int p3), .val (.int ll), .val (.int k0), .val (.int k1)] [])) rfl (hb hby d1_45) (by decide) (by decide)
      obtain ⟨x, eq_x⟩ : ∃ z, z = h0.size := ⟨_, rfl⟩
      rw [← eq_x] at E_x D_x st125
      have g_x : n0 ≤ x := Nat.le_trans Z0 (Nat.le_of_eq eq_x.symm)
      have O_126 := O.ext Ext_x
      have Z127 : n0 ≤ h125.size := Nat.le_trans Z0 (Ext_x.1)
      have ch128 := (CHr.refl hH).trans (CHr.ext Ext_x (CHr.refl hH).1)
      have Fv_x : Fld Z h125 x "java/lang/String" "value" "[B" .null := D_x (Or.inr (hw _ (List.mem_of_getElem? (i := 29) rfl))) (ty := (.array .byte)) (by decide)
      have Fc_x : Fld Z h125 x "java/lang/String" "coder" "B" (.int (0 : Int32)) := D_x (Or.inr (hw _ (List.mem_of_getElem? (i := 30) rfl))) (ty := .byte) (by decide)
      have K0_x := (Keep.refl h0 []).ext Ext_x
      obtain ⟨T129, h129, k_ch, X129, e129, Ext_ch, A_ch, st129⟩ := newP X125 hx hZ (hw _ (List.mem_of_getElem? (i := 16) rfl)) e125 (g := (mkF m 50 #[.val (.int p1), .val (.int p2), .val (.int p3), .val (.int ll), .val (.int k0), .val (.int k1)] [(.int (1 : Int32)), (.ref x), (.ref x)])) rfl (hb hby d1_50) rfl (by decide) (cap := 1) (by decide) (by decide) (by decide) (by decide)
      obtain ⟨ch, eq_ch⟩ : ∃ z, z = h125.size := ⟨_, rfl⟩
      rw [← eq_ch] at A_ch st129
      have g_ch : n0 ≤ ch := Nat.le_trans Z127 (Nat.le_of_eq eq_ch.symm)
      have O_130 := O_126.ext Ext_ch
      have ne_x_ch : x ≠ ch := Nat.ne_of_lt (Nat.lt_of_lt_of_le E_x.lt (Nat.le_of_eq eq_ch.symm))
      have E_x_131 := E_x.ext Ext_ch
      have Fv_x_132 := Fv_x.ext Ext_ch
      have Fc_x_133 := Fc_x.ext Ext_ch
      have KK_x_134 := K0_x.ext Ext_ch
      have Z135 : n0 ≤ h129.size := Nat.le_trans Z127 (Ext_ch.1)
      have ch136 := ch128.trans (CHr.ext Ext_ch ch128.1)
      have V_ch : Arv Z h129 ch k_ch .char (1 : Int32) [(.int (0 : Int32))] (.int (0 : Int32)) := (Arv.new A_ch (by decide)).pad (pad_rep [] (.int (0 : Int32)) 1)
      have sz_ch : h0.size ≤ ch := Nat.le_trans K0_x.1 (Nat.le_of_eq eq_ch.symm)
      obtain ⟨cl137, Ar137, qk137, Sz137, Ng137, Hs137, Gs137⟩ := V_ch
      have hin137 : ¬ ((0 : Int32) < 0 ∨ cl137.slots.size ≤ ((0 : Int32)).toNatClampNeg) := inb_of Sz137 ⟨by decide, by decide⟩
      obtain ⟨T138, h138, X138, e138, W138, st138⟩ := stC X129 hx hZ e129 Ar137 (j := (0 : Int32)) hin137 (g := (mkF m 56 #[.val (.int p1), .val (.int p2), .val (.int p3), .val (.int ll), .val (.int k0), .val (.int k1)] [(.int k0), (.int (0 : Int32)), (.ref ch), (.ref ch), (.ref x), (.ref x)])) rfl rfl (hb hby d1_56)
      have O_139 := O_130.wr W138 g_ch
      have E_x_140 := E_x_131.wr W138
      have Fv_x_141 := Fv_x_132.other W138 (Or.inl ne_x_ch)
      have Fc_x_142 := Fc_x_133.other W138 (Or.inl ne_x_ch)
      have KK_x_143 := KK_x_134.wr W138 (Or.inr sz_ch)
      have V_ch_138 : Arv Z h138 ch k_ch .char (1 : Int32) [(.int (nar .char k0))] (.int (0 : Int32)) := Arv.set Ar137 qk137 Sz137 Ng137 Hs137 Gs137 (fits_nar_char _) W138 0 rfl (Nat.le_of_ble_eq_true rfl)
      have N138 := Fr.snoc X138 N105 g_ch
      have Z145 : n0 ≤ h138.size := Nat.le_trans Z135 ((Keep.of_wr W138).1)
      obtain ⟨_, _, ⟨T146, L146, k146, n146⟩, -, X146, ⟨Lc146, hQ146, l146, y146, z146⟩, st146⟩ := X138.specialBack hx (y := (⟨"java/lang/String", "<init>", "([C)V"⟩ : MethodName)) rfl hown (mvT hZ (hw _ (List.mem_of_getElem? (i := 17) rfl))) (mvT hZ (hw _ (List.mem_of_getElem? (i := 18) rfl))) (mvT hZ (hw _ (List.mem_of_getElem? (i := 19) rfl))) (by decide) (StrChars.Road.backV (W := 1) hZ (own_hws hw) (kI := 4) (hw _ (List.mem_of_getElem? (i := 14) rfl)) (cs := [(nar .char k0)]) (bs := [((nar .char k0)).toInt8.toInt32]) (n := 1) g_x Z145 E_x_140 Fv_x_141 Fc_x_142 V_ch_138 (S_c.ext O_139.2) hzc rfl rfl (by decide) (by decide) lat rfl (by decide) (by decide)) (g := (mkF m 57 #[.val (.int p1), .val (.int p2), .val (.int p3), .val (.int ll), .val (.int k0), .val (.int k1)] [(.ref ch), (.ref x), (.ref x)])) rfl (by rw [hml]; rfl) (Steps.refl _) (a := x) (argsL := [(.ref ch)]) (rest := [(.ref x)]) (lenOf pd_3 rfl) rfl (by show 2 * 0 + _ ≤ _; exact Nat.le_of_eq rfl) (hb hby d1_57) (fun _ _ => ⟨rfl, e138, (by decide : 2 + 1 ≤ _), (by decide : 5 + 1 ≤ _)⟩)
      dsimp only [Pt.U, Pt.locs, Pt.cells, Pt.slots] at X146 l146 y146 z146 st146 hQ146
      subst l146 y146 z146
      obtain ⟨rfl, N146q, K146, Es146, Cs146, tb146, kb146, -, -, -, Vs146, As146⟩ := hQ146
      have N146 := Fr.app N138 N146q
      have Str_x : own_Str Z T146.heap x [(nar .char k0)] := ⟨tb146, kb146, 0, _, _, Es146, Vs146, Cs146, As146, StrChars.Road.codOf (n := 1) rfl (fun c hc => (lat c hc).2), fun c hc => own_to16 (lat c hc), by simp⟩
      have K_x := KK_x_143.trans K146 (allS (Or.inr (Nat.le_of_eq eq_x.symm)) all0)
      have Z147 : n0 ≤ T146.heap.size := Nat.le_trans Z145 (K146.1)
      rw [e2] at Str_x
      have pre148 : ∀ t_, Steps p.tables e below (T146.setTop (mkF m 60 #[.val (.int p1), .val (.int p2), .val (.int p3), .val (.int ll), .val (.int k0), .val (.int k1)] [(.ref x)])) t_ → Steps p.tables e below (s₁.setTop (entryFrame m #[(.int p1), (.int p2), (.int p3)] 6)) t_ := fun t_ k_ => pre124 _ (by
        show Steps p.tables e below (T105.setTop (mkF m 42 #[.val (.int p1), .val (.int p2), .val (.int p3), .val (.int ll), .val (.int k0), .val (.int k1)] [(.int (1 : Int32)), (.int ll)])) _
        refine XS.icmpNo X105.here hx rfl (hb hby d1_42) rfl (teq hc1).2 ?_
        show Steps p.tables e below (T105.setTop (mkF m 45 #[.val (.int p1), .val (.int p2), .val (.int p3), .val (.int ll), .val (.int k0), .val (.int k1)] [])) _
        refine st125 _ ?_
        show Steps p.tables e below (T125.setTop (mkF m 48 #[.val (.int p1), .val (.int p2), .val (.int p3), .val (.int ll), .val (.int k0), .val (.int k1)] [(.ref x)])) _
        refine XS.dup X125.here hx rfl (hb hby d1_48) rfl rfl ?_
        show Steps p.tables e below (T125.setTop (mkF m 49 #[.val (.int p1), .val (.int p2), .val (.int p3), .val (.int ll), .val (.int k0), .val (.int k1)] [(.ref x), (.ref x)])) _
        refine XS.iconst X125.here hx rfl (hb hby d1_49) ?_
        show Steps p.tables e below (T125.setTop (mkF m 50 #[.val (.int p1), .val (.int p2), .val (.int p3), .val (.int ll), .val (.int k0), .val (.int k1)] [(.int (1 : Int32)), (.ref x), (.ref x)])) _
        refine st129 _ ?_
        show Steps p.tables e below (T129.setTop (mkF m 52 #[.val (.int p1), .val (.int p2), .val (.int p3), .val (.int ll), .val (.int k0), .val (.int k1)] [(.ref ch), (.ref x), (.ref x)])) _
        refine XS.dup X129.here hx rfl (hb hby d1_52) rfl rfl ?_
        show Steps p.tables e below (T129.setTop (mkF m 53 #[.val (.int p1), .val (.int p2), .val (.int p3), .val (.int ll), .val (.int k0), .val (.int k1)] [(.ref ch), (.ref ch), (.ref x), (.ref x)])) _
        refine XS.iconst X129.here hx rfl (hb hby d1_53) ?_
        show Steps p.tables e below (T129.setTop (mkF m 54 #[.val (.int p1), .val (.int p2), .val (.int p3), .val (.int ll), .val (.int k0), .val (.int k1)] [(.int (0 : Int32)), (.ref ch), (.ref ch), (.ref x), (.ref x)])) _
        refine XS.iload X129.here hx rfl (hb hby d1_54) rfl ?_
        show Steps p.tables e below (T129.setTop (mkF m 56 #[.val (.int p1), .val (.int p2), .val (.int p3), .val (.int ll), .val (.int k0), .val (.int k1)] [(.int k0), (.int (0 : Int32)), (.ref ch), (.ref ch), (.ref x), (.ref x)])) _
        refine st138 _ ?_
        show Steps p.tables e below (T138.setTop (mkF m 57 #[.val (.int p1), .val (.int p2), .val (.int p3), .val (.int ll), .val (.int k0), .val (.int k1)] [(.ref ch), (.ref x), (.ref x)])) _
        refine st146.trans ?_
        exact k_)
      obtain ⟨fs, hr, hrun, hended, hW, hsame⟩ := X146.leave (v := some (.ref x)) (fun h => by rw [Bd.returns] at h; cases h)
      refine ⟨_, _, pre148 _ ?_, hrun, hended, _, _, rfl, ?_, (by show CHr Z own_EL s.vm s.heap T146.vm T146.heap; rw [hh]; exact (CHr.keep K_x (fun _ q => nomatch q) hH).trans (CHv.at (s := s) (vm0 := s.vm) X146 hZ (own_EW hw) (CHr.keep K_x (fun _ q => nomatch q) hH).1)), ReturnedEndW.of_narrow ⟨_, rfl⟩ hW (hsame.mono (by decide) (by decide))⟩
      · show Steps p.tables e below (T146.setTop (mkF m 60 #[.val (.int p1), .val (.int p2), .val (.int p3), .val (.int ll), .val (.int k0), .val (.int k1)] [(.ref x)])) _
        jvm_step X146.here [X146.here.top, hx, (hb hby d1_60), X146.method', Bd.returns, Value.isRef, FieldType.isReference]
        first | (intro acts; rw [hr _ acts rfl rfl rfl]) | rw [hr _ _ rfl rfl rfl]
        exact Steps.refl _
      · show QrmStr Z p1 p2 p3 zc h0 n0 _ T146.heap _
        exact ⟨x, rfl, N146, K_x, by rw [eds, own_cs, if_neg hc0, if_pos hc1]; exact Str_x, Nat.le_of_eq eq_x.symm⟩
    · skip
      have e2 : nar .char k0 = k0 := own_narc c0
      have e3 : nar .char k1 = k1 := own_narc c1
      have lat : ∀ c ∈ [nar .char k0, nar .char k1], ¬ c < 0 ∧ ¬ (255 : Int32) < c := by
        rw [e2, e3]
        intro c hc
        simp only [List.mem_cons, List.not_mem_nil, or_false] at hc
        rcases hc with rfl | rfl
        · exact c0
        · exact c1
      obtain ⟨T149, h149, X149, e149, Ext_x, E_x, D_x, -, st149⟩ := newO X105 hx hZ hown (hw _ (List.mem_of_getElem? (i := 13) rfl)) (hw _ (List.mem_of_getElem? (i := 14) rfl)) (hw _ (List.mem_of_getElem? (i := 15) rfl)) e105 (g := (mkF m 61 #[.val (.int p1), .val (.int p2), .val (.int p3), .val (.int ll), .val (.int k0), .val (.int k1)] [])) rfl (hb hby d1_61) (by decide) (by decide)
      obtain ⟨x, eq_x⟩ : ∃ z, z = h0.size := ⟨_, rfl⟩
      rw [← eq_x] at E_x D_x st149
      have g_x : n0 ≤ x := Nat.le_trans Z0 (Nat.le_of_eq eq_x.symm)
      have O_150 := O.ext Ext_x
      have Z151 : n0 ≤ h149.size := Nat.le_trans Z0 (Ext_x.1)
      have ch152 := (CHr.refl hH).trans (CHr.ext Ext_x (CHr.refl hH).1)
      have Fv_x : Fld Z h149 x "java/lang/String" "value" "[B" .null := D_x (Or.inr (hw _ (List.mem_of_getElem? (i := 29) rfl))) (ty := (.array .byte)) (by decide)
      have Fc_x : Fld Z h149 x "java/lang/String" "coder" "B" (.int (0 : Int32)) := D_x (Or.inr (hw _ (List.mem_of_getElem? (i := 30) rfl))) (ty := .byte) (by decide)
      have K0_x := (Keep.refl h0 []).ext Ext_x
      obtain ⟨T153, h153, k_ch, X153, e153, Ext_ch, A_ch, st153⟩ := newP X149 hx hZ (hw _ (List.mem_of_getElem? (i := 16) rfl)) e149 (g := (mkF m 66 #[.val (.int p1), .val (.int p2), .val (.int p3), .val (.int ll), .val (.int k0), .val (.int k1)] [(.int (2 : Int32)), (.ref x), (.ref x)])) rfl (hb hby d1_66) rfl (by decide) (cap := 2) (by decide) (by decide) (by decide) (by decide)
      obtain ⟨ch, eq_ch⟩ : ∃ z, z = h149.size := ⟨_, rfl⟩
      rw [← eq_ch] at A_ch st153
      have g_ch : n0 ≤ ch := Nat.le_trans Z151 (Nat.le_of_eq eq_ch.symm)
      have O_154 := O_150.ext Ext_ch
      have ne_x_ch : x ≠ ch := Nat.ne_of_lt (Nat.lt_of_lt_of_le E_x.lt (Nat.le_of_eq eq_ch.symm))
      have E_x_155 := E_x.ext Ext_ch
      have Fv_x_156 := Fv_x.ext Ext_ch
      have Fc_x_157 := Fc_x.ext Ext_ch
      have KK_x_158 := K0_x.ext Ext_ch
      have Z159 : n0 ≤ h153.size := Nat.le_trans Z151 (Ext_ch.1)
      have ch160 := ch152.trans (CHr.ext Ext_ch ch152.1)
      have V_ch : Arv Z h153 ch k_ch .char (2 : Int32) [(.int (0 : Int32)), (.int (0 : Int32))] (.int (0 : Int32)) := (Arv.new A_ch (by decide)).pad (pad_rep [] (.int (0 : Int32)) 2)
      have sz_ch : h0.size ≤ ch := Nat.le_trans K0_x.1 (Nat.le_of_eq eq_ch.symm)
      obtain ⟨cl161, Ar161, qk161, Sz161, Ng161, Hs161, Gs161⟩ := V_ch
      have hin161 : ¬ ((0 : Int32) < 0 ∨ cl161.slots.size ≤ ((0 : Int32)).toNatClampNeg) := inb_of Sz161 ⟨by decide, by decide⟩
      obtain ⟨T162, h162, X162, e162, W162, st162⟩ := stC X153 hx hZ e153 Ar161 (j := (0 : Int32)) hin161 (g := (mkF m 72 #[.val (.int p1), .val (.int p2), .val (.int p3), .val (.int ll), .val (.int k0), .val (.int k1)] [(.int k0), (.int (0 : Int32)), (.ref ch), (.ref ch), (.ref x), (.ref x)])) rfl rfl (hb hby d1_72)
      have O_163 := O_154.wr W162 g_ch
      have E_x_164 := E_x_155.wr W162
      have Fv_x_165 := Fv_x_156.other W162 (Or.inl ne_x_ch)
      have Fc_x_166 := Fc_x_157.other W162 (Or.inl ne_x_ch)
      have KK_x_167 := KK_x_158.wr W162 (Or.inr sz_ch)
      have V_ch_162 : Arv Z h162 ch k_ch .char (2 : Int32) [(.int (nar .char k0)), (.int (0 : Int32))] (.int (0 : Int32)) := Arv.set Ar161 qk161 Sz161 Ng161 Hs161 Gs161 (fits_nar_char _) W162 0 rfl (Nat.le_of_ble_eq_true rfl)
      have N162 := Fr.snoc X162 N105 g_ch
      have Z169 : n0 ≤ h162.size := Nat.le_trans Z159 ((Keep.of_wr W162).1)
      obtain ⟨cl170, Ar170, qk170, Sz170, Ng170, Hs170, Gs170⟩ := V_ch_162
      have hin170 : ¬ ((1 : Int32) < 0 ∨ cl170.slots.size ≤ ((1 : Int32)).toNatClampNeg) := inb_of Sz170 ⟨by decide, by decide⟩
      obtain ⟨T171, h171, X171, e171, W171, st171⟩ := stC X162 hx hZ e162 Ar170 (j := (1 : Int32)) hin170 (g := (mkF m 77 #[.val (.int p1), .val (.int p2), .val (.int p3), .val (.int ll), .val (.int k0), .val (.int k1)] [(.int k1), (.int (1 : Int32)), (.ref ch), (.ref ch), (.ref x), (.ref x)])) rfl rfl (hb hby d1_77)
      have O_172 := O_163.wr W171 g_ch
      have E_x_173 := E_x_164.wr W171
      have Fv_x_174 := Fv_x_165.other W171 (Or.inl ne_x_ch)
      have Fc_x_175 := Fc_x_166.other W171 (Or.inl ne_x_ch)
      have KK_x_176 := KK_x_167.wr W171 (Or.inr sz_ch)
      have V_ch_171 : Arv Z h171 ch k_ch .char (2 : Int32) [(.int (nar .char k0)), (.int (nar .char k1))] (.int (0 : Int32)) := Arv.set Ar170 qk170 Sz170 Ng170 Hs170 Gs170 (fits_nar_char _) W171 1 rfl (Nat.le_of_ble_eq_true rfl)
      have N171 := Fr.snoc X171 N162 g_ch
      have Z178 : n0 ≤ h171.size := Nat.le_trans Z169 ((Keep.of_wr W171).1)
      obtain ⟨_, _, ⟨T179, L179, k179, n179⟩, -, X179, ⟨Lc179, hQ179, l179, y179, z179⟩, st179⟩ := X171.specialBack hx (y := (⟨"java/lang/String", "<init>", "([C)V"⟩ : MethodName)) rfl hown (mvT hZ (hw _ (List.mem_of_getElem? (i := 17) rfl))) (mvT hZ (hw _ (List.mem_of_getElem? (i := 18) rfl))) (mvT hZ (hw _ (List.mem_of_getElem? (i := 19) rfl))) (by decide) (StrChars.Road.backV (W := 1) hZ (own_hws hw) (kI := 4) (hw _ (List.mem_of_getElem? (i := 14) rfl)) (cs := [(nar .char k0), (nar .char k1)]) (bs := [((nar .char k0)).toInt8.toInt32, ((nar .char k1)).toInt8.toInt32]) (n := 2) g_x Z178 E_x_173 Fv_x_174 Fc_x_175 V_ch_171 (S_c.ext O_172.2) hzc rfl rfl (by decide) (by decide) lat rfl (by decide) (by decide)) (g := (mkF m 78 #[.val (.int p1), .val (.int p2), .val (.int p3), .val (.int ll), .val (.int k0), .val (.int k1)] [(.ref ch), (.ref x), (.ref x)])) rfl (by rw [hml]; rfl) (Steps.refl _) (a := x) (argsL := [(.ref ch)]) (rest := [(.ref x)]) (lenOf pd_3 rfl) rfl (by show 2 * 0 + _ ≤ _; exact Nat.le_of_eq rfl) (hb hby d1_78) (fun _ _ => ⟨rfl, e171, (by decide : 2 + 1 ≤ _), (by decide : 6 + 2 ≤ _)⟩)
      dsimp only [Pt.U, Pt.locs, Pt.cells, Pt.slots] at X179 l179 y179 z179 st179 hQ179
      subst l179 y179 z179
      obtain ⟨rfl, N179q, K179, Es179, Cs179, tb179, kb179, -, -, -, Vs179, As179⟩ := hQ179
      have N179 := Fr.app N171 N179q
      have Str_x : own_Str Z T179.heap x [(nar .char k0), (nar .char k1)] := ⟨tb179, kb179, 0, _, _, Es179, Vs179, Cs179, As179, StrChars.Road.codOf (n := 2) rfl (fun c hc => (lat c hc).2), fun c hc => own_to16 (lat c hc), by simp⟩
      have K_x := KK_x_176.trans K179 (allS (Or.inr (Nat.le_of_eq eq_x.symm)) all0)
      have Z180 : n0 ≤ T179.heap.size := Nat.le_trans Z178 (K179.1)
      rw [e2, e3] at Str_x
      have pre181 : ∀ t_, Steps p.tables e below (T179.setTop (mkF m 81 #[.val (.int p1), .val (.int p2), .val (.int p3), .val (.int ll), .val (.int k0), .val (.int k1)] [(.ref x)])) t_ → Steps p.tables e below (s₁.setTop (entryFrame m #[(.int p1), (.int p2), (.int p3)] 6)) t_ := fun t_ k_ => pre124 _ (by
        show Steps p.tables e below (T105.setTop (mkF m 42 #[.val (.int p1), .val (.int p2), .val (.int p3), .val (.int ll), .val (.int k0), .val (.int k1)] [(.int (1 : Int32)), (.int ll)])) _
        refine XS.icmpYes X105.here hx rfl (pc0 := 42) (pc' := 61) rfl (hb hby d1_42) rfl (feq hc1).2 (by decide) (by decide) ?_
        show Steps p.tables e below (T105.setTop (mkF m 61 #[.val (.int p1), .val (.int p2), .val (.int p3), .val (.int ll), .val (.int k0), .val (.int k1)] [])) _
        refine st149 _ ?_
        show Steps p.tables e below (T149.setTop (mkF m 64 #[.val (.int p1), .val (.int p2), .val (.int p3), .val (.int ll), .val (.int k0), .val (.int k1)] [(.ref x)])) _
        refine XS.dup X149.here hx rfl (hb hby d1_64) rfl rfl ?_
        show Steps p.tables e below (T149.setTop (mkF m 65 #[.val (.int p1), .val (.int p2), .val (.int p3), .val (.int ll), .val (.int k0), .val (.int k1)] [(.ref x), (.ref x)])) _
        refine XS.iconst X149.here hx rfl (hb hby d1_65) ?_
        show Steps p.tables e below (T149.setTop (mkF m 66 #[.val (.int p1), .val (.int p2), .val (.int p3), .val (.int ll), .val (.int k0), .val (.int k1)] [(.int (2 : Int32)), (.ref x), (.ref x)])) _
        refine st153 _ ?_
        show Steps p.tables e below (T153.setTop (mkF m 68 #[.val (.int p1), .val (.int p2), .val (.int p3), .val (.int ll), .val (.int k0), .val (.int k1)] [(.ref ch), (.ref x), (.ref x)])) _
        refine XS.dup X153.here hx rfl (hb hby d1_68) rfl rfl ?_
        show Steps p.tables e below (T153.setTop (mkF m 69 #[.val (.int p1), .val (.int p2), .val (.int p3), .val (.int ll), .val (.int k0), .val (.int k1)] [(.ref ch), (.ref ch), (.ref x), (.ref x)])) _
        refine XS.iconst X153.here hx rfl (hb hby d1_69) ?_
        show Steps p.tables e below (T153.setTop (mkF m 70 #[.val (.int p1), .val (.int p2), .val (.int p3), .val (.int ll), .val (.int k0), .val (.int k1)] [(.int (0 : Int32)), (.ref ch), (.ref ch), (.ref x), (.ref x)])) _
        refine XS.iload X153.here hx rfl (hb hby d1_70) rfl ?_
        show Steps p.tables e below (T153.setTop (mkF m 72 #[.val (.int p1), .val (.int p2), .val (.int p3), .val (.int ll), .val (.int k0), .val (.int k1)] [(.int k0), (.int (0 : Int32)), (.ref ch), (.ref ch), (.ref x), (.ref x)])) _
        refine st162 _ ?_
        show Steps p.tables e below (T162.setTop (mkF m 73 #[.val (.int p1), .val (.int p2), .val (.int p3), .val (.int ll), .val (.int k0), .val (.int k1)] [(.ref ch), (.ref x), (.ref x)])) _
        refine XS.dup X162.here hx rfl (hb hby d1_73) rfl rfl ?_
        show Steps p.tables e below (T162.setTop (mkF m 74 #[.val (.int p1), .val (.int p2), .val (.int p3), .val (.int ll), .val (.int k0), .val (.int k1)] [(.ref ch), (.ref ch), (.ref x), (.ref x)])) _
        refine XS.iconst X162.here hx rfl (hb hby d1_74) ?_
        show Steps p.tables e below (T162.setTop (mkF m 75 #[.val (.int p1), .val (.int p2), .val (.int p3), .val (.int ll), .val (.int k0), .val (.int k1)] [(.int (1 : Int32)), (.ref ch), (.ref ch), (.ref x), (.ref x)])) _
        refine XS.iload X162.here hx rfl (hb hby d1_75) rfl ?_
        show Steps p.tables e below (T162.setTop (mkF m 77 #[.val (.int p1), .val (.int p2), .val (.int p3), .val (.int ll), .val (.int k0), .val (.int k1)] [(.int k1), (.int (1 : Int32)), (.ref ch), (.ref ch), (.ref x), (.ref x)])) _
        refine st171 _ ?_
        show Steps p.tables e below (T171.setTop (mkF m 78 #[.val (.int p1), .val (.int p2), .val (.int p3), .val (.int ll), .val (.int k0), .val (.int k1)] [(.ref ch), (.ref x), (.ref x)])) _
        refine st179.trans ?_
        exact k_)
      obtain ⟨fs, hr, hrun, hended, hW, hsame⟩ := X179.leave (v := some (.ref x)) (fun h => by rw [Bd.returns] at h; cases h)
      refine ⟨_, _, pre181 _ ?_, hrun, hended, _, _, rfl, ?_, (by show CHr Z own_EL s.vm s.heap T179.vm T179.heap; rw [hh]; exact (CHr.keep K_x (fun _ q => nomatch q) hH).trans (CHv.at (s := s) (vm0 := s.vm) X179 hZ (own_EW hw) (CHr.keep K_x (fun _ q => nomatch q) hH).1)), ReturnedEndW.of_narrow ⟨_, rfl⟩ hW (hsame.mono (by decide) (by decide))⟩
      · show Steps p.tables e below (T179.setTop (mkF m 81 #[.val (.int p1), .val (.int p2), .val (.int p3), .val (.int ll), .val (.int k0), .val (.int k1)] [(.ref x)])) _
        jvm_step X179.here [X179.here.top, hx, (hb hby d1_81), X179.method', Bd.returns, Value.isRef, FieldType.isReference]
        first | (intro acts; rw [hr _ acts rfl rfl rfl]) | rw [hr _ _ rfl rfl rfl]
        exact Steps.refl _
      · show QrmStr Z p1 p2 p3 zc h0 n0 _ T179.heap _
        exact ⟨x, rfl, N179, K_x, by rw [eds, own_cs, if_neg hc0, if_neg hc1]; exact Str_x, Nat.le_of_eq eq_x.symm⟩
theorem d9_0 : decode method_5_code 0 = .ok (.iload_n 0, 1) := by decide +kernel
theorem d9_1 : decode method_5_code 1 = .ok (.invokestatic 7, 3) := by decide +kernel
theorem d9_4 : decode method_5_code 4 = .ok (.istore 4, 2) := by decide +kernel
theorem d9_6 : decode method_5_code 6 = .ok (.iload_n 1, 1) := by decide +kernel
theorem d9_7 : decode method_5_code 7 = .ok (.invokestatic 7, 3) := by decide +kernel
theorem d9_10 : decode method_5_code 10 = .ok (.istore 5, 2) := by decide +kernel
theorem d9_12 : decode method_5_code 12 = .ok (.iload 4, 2) := by decide +kernel
theorem d9_14 : decode method_5_code 14 = .ok (.iload 5, 2) := by decide +kernel
theorem d9_16 : decode method_5_code 16 = .ok (.if_icmp .eq 5, 3) := by decide +kernel
theorem d9_19 : decode method_5_code 19 = .ok (.iconst 0, 1) := by decide +kernel
theorem d9_20 : decode method_5_code 20 = .ok (.ireturn, 1) := by decide +kernel
theorem d9_21 : decode method_5_code 21 = .ok (.iload 4, 2) := by decide +kernel
theorem d9_23 : decode method_5_code 23 = .ok (.iconst 1, 1) := by decide +kernel
theorem d9_24 : decode method_5_code 24 = .ok (.if_icmp .lt 24, 3) := by decide +kernel
theorem d9_27 : decode method_5_code 27 = .ok (.iload_n 0, 1) := by decide +kernel
theorem d9_28 : decode method_5_code 28 = .ok (.iconst 2, 1) := by decide +kernel
theorem d9_29 : decode method_5_code 29 = .ok (.ishr, 1) := by decide +kernel
theorem d9_30 : decode method_5_code 30 = .ok (.iload_n 2, 1) := by decide +kernel
theorem d9_31 : decode method_5_code 31 = .ok (.iload_n 3, 1) := by decide +kernel
theorem d9_32 : decode method_5_code 32 = .ok (.invokestatic 13, 3) := by decide +kernel
theorem d9_35 : decode method_5_code 35 = .ok (.iload_n 1, 1) := by decide +kernel
theorem d9_36 : decode method_5_code 36 = .ok (.iconst 2, 1) := by decide +kernel
theorem d9_37 : decode method_5_code 37 = .ok (.ishr, 1) := by decide +kernel
theorem d9_38 : decode method_5_code 38 = .ok (.iload_n 2, 1) := by decide +kernel
theorem d9_39 : decode method_5_code 39 = .ok (.iload_n 3, 1) := by decide +kernel
theorem d9_40 : decode method_5_code 40 = .ok (.invokestatic 13, 3) := by decide +kernel
theorem d9_43 : decode method_5_code 43 = .ok (.if_icmp .eq 5, 3) := by decide +kernel
theorem d9_46 : decode method_5_code 46 = .ok (.iconst 0, 1) := by decide +kernel
theorem d9_47 : decode method_5_code 47 = .ok (.ireturn, 1) := by decide +kernel
theorem d9_48 : decode method_5_code 48 = .ok (.iload 4, 2) := by decide +kernel
theorem d9_50 : decode method_5_code 50 = .ok (.iconst 2, 1) := by decide +kernel
theorem d9_51 : decode method_5_code 51 = .ok (.if_icmp .lt 24, 3) := by decide +kernel
theorem d9_54 : decode method_5_code 54 = .ok (.iload_n 0, 1) := by decide +kernel
theorem d9_55 : decode method_5_code 55 = .ok (.iconst 3, 1) := by decide +kernel
theorem d9_56 : decode method_5_code 56 = .ok (.ishr, 1) := by decide +kernel
theorem d9_57 : decode method_5_code 57 = .ok (.iload_n 2, 1) := by decide +kernel
theorem d9_58 : decode method_5_code 58 = .ok (.iload_n 3, 1) := by decide +kernel
theorem d9_59 : decode method_5_code 59 = .ok (.invokestatic 13, 3) := by decide +kernel
theorem d9_62 : decode method_5_code 62 = .ok (.iload_n 1, 1) := by decide +kernel
theorem d9_63 : decode method_5_code 63 = .ok (.iconst 3, 1) := by decide +kernel
theorem d9_64 : decode method_5_code 64 = .ok (.ishr, 1) := by decide +kernel
theorem d9_65 : decode method_5_code 65 = .ok (.iload_n 2, 1) := by decide +kernel
theorem d9_66 : decode method_5_code 66 = .ok (.iload_n 3, 1) := by decide +kernel
theorem d9_67 : decode method_5_code 67 = .ok (.invokestatic 13, 3) := by decide +kernel
theorem d9_70 : decode method_5_code 70 = .ok (.if_icmp .eq 5, 3) := by decide +kernel
theorem d9_73 : decode method_5_code 73 = .ok (.iconst 0, 1) := by decide +kernel
theorem d9_74 : decode method_5_code 74 = .ok (.ireturn, 1) := by decide +kernel
theorem d9_75 : decode method_5_code 75 = .ok (.iconst 1, 1) := by decide +kernel
theorem d9_76 : decode method_5_code 76 = .ok (.ireturn, 1) := by decide +kernel
theorem ef_rmSame (m : MethodId) (x0 : Int32) (x1 : Int32) (x2 : Int32) (x3 : Int32) : entryFrame m #[(.int x0), (.int x1), (.int x2), (.int x3)] 6 = mkF m 0 #[.val (.int x0), .val (.int x1), .val (.int x2), .val (.int x3), .unset, .unset] [] := by first | (simp [entryFrame, mkF, argsToLocals, Value.category]; done) | rfl
def QrmSame (Z : State) (p1 : Int32) (p2 : Int32) (p3 : Int32) (p4 : Int32) (h0 : Heap) (n0 : Nat) (v : Option Value) (h : Heap) (L : List Loc) : Prop := v = some (.int (if own_ds p1 p3 p4 = own_ds p2 p3 p4 then 1 else 0)) ∧ Fr n0 L ∧ h = h0
set_option maxRecDepth 65536 in
set_option maxHeartbeats 40000000 in
theorem rmSame (l : Launch) (Z : State) (a0 : Array Value) (hw : ∀ d ∈ tables_1, d.before a0 Z = true) (ws : List Jvm.Cond) (p1 : Int32) (p2 : Int32) (p3 : Int32) (p4 : Int32) (h0 : Heap) (n0 : Nat) (Z0 : n0 ≤ h0.size) (b3 : own_b8 p3) (b4 : own_b8 p4) :
    MetFree l (⟨"com/example/cranfield/cranfield/model/DocumentEqualsPinLaw", "same", "(IICC)Z"⟩ : MethodName) (head1 (Jvm.Cond.code (⟨"com/example/cranfield/cranfield/model/DocumentEqualsPinLaw", "same", "(IICC)Z"⟩ : MethodName) method_5_code 6 (some .boolean) :: ws) ({ frames := 1, cells := 0, slots := 0, locals := 15 } : Room)) (fun a U => a = #[(.int p1), (.int p2), (.int p3), (.int p4)] ∧ Z.Warmed39 U.vm ∧ U.heap = h0) (fun _ _ _ _ _ => True) (fun _ U o U' => ∃ v L, o = .returned v ∧ QrmSame Z p1 p2 p3 p4 h0 n0 v U'.heap L ∧ FrameEnd U o U' L ({ frames := 1, cells := 0, slots := 0, locals := 15 } : Room).cells ({ frames := 1, cells := 0, slots := 0, locals := 15 } : Room).slots) := by
  refine MetFree.of_bodySF (plainFor_of_name pn_1) hisR ?_
  intro p e s m args below meth c s₁ Bd hml0 hP hK
  obtain ⟨rfl, hZ, hh⟩ := hP
  have hx := Bd.exec
  have hby := Bd.bytes
  have hml : c.maxLocals = 6 := hml0
  have hown : s.vm.findClass "com/example/cranfield/cranfield/model/DocumentEqualsPinLaw" = some m.cls := findClass_of_methodNamed Bd.named
  have hnm := (name_of_methodNamed Bd.named Bd.method).1
  have X0 : Stand p l e ({ frames := 1, cells := 0, slots := 0, locals := 15 } : Room) s m #[(.int p1), (.int p2), (.int p3), (.int p4)] below meth c s₁ [] 0 0 := Stand.of_body Bd
  have e0 : s₁.heap = h0 := by rw [← hh, Bd.state]; rfl
  have N0 := Fr.nil n0
  have pre0 : ∀ t_, Steps p.tables e below (s₁.setTop (mkF m 0 #[.val (.int p1), .val (.int p2), .val (.int p3), .val (.int p4), .unset, .unset] [])) t_ → Steps p.tables e below (s₁.setTop (entryFrame m #[(.int p1), (.int p2), (.int p3), (.int p4)] 6)) t_ := fun t_ k_ => castTop (ef_rmSame m p1 p2 p3 p4) k_
  obtain ⟨_, _, ⟨T101, L101, k101, n101⟩, -, X101, ⟨Lc101, hQ101, l101, y101, z101⟩, st101⟩ := Jvm.LawKit.callS X0 hx (y := (⟨"com/example/cranfield/cranfield/model/DocumentEqualsPinLaw", "len", "(I)I"⟩ : MethodName)) hown (mvT hZ (hw _ (List.mem_of_getElem? (i := 7) rfl))) (mvT hZ (hw _ (List.mem_of_getElem? (i := 8) rfl))) (mvT hZ (hw _ (List.mem_of_getElem? (i := 5) rfl))) (mvT hZ (hw _ (List.mem_of_getElem? (i := 9) rfl))) (by decide) (backOf (W := 0) (rmLen l Z a0 hw [] p1 h0 n0 Z0 ) hZ (hw _ (List.mem_of_getElem? (i := 9) rfl)) (hw _ (List.mem_of_getElem? (i := 5) rfl)) (by decide) (by decide)) (g := (mkF m 1 #[.val (.int p1), .val (.int p2), .val (.int p3), .val (.int p4), .unset, .unset] [(.int p1)])) rfl (by rw [hml]; rfl) (argsL := [(.int p1)]) (rest := []) (lenOf pd_1 rfl) rfl (by show 2 * 0 + _ ≤ _; exact Nat.le_of_eq rfl) (hb hby d9_1) (fun _ _ => ⟨rfl, e0, (by decide : 0 + 0 ≤ _), (by decide : 0 + 0 ≤ _)⟩)
  dsimp only [Pt.U, Pt.locs, Pt.cells, Pt.slots] at X101 l101 y101 z101 st101 hQ101
  subst l101 y101 z101
  obtain ⟨rfl, N101q, e101⟩ := hQ101
  have N101 := Fr.app N0 N101q
  obtain ⟨_, _, ⟨T102, L102, k102, n102⟩, -, X102, ⟨Lc102, hQ102, l102, y102, z102⟩, st102⟩ := Jvm.LawKit.callS X101 hx (y := (⟨"com/example/cranfield/cranfield/model/DocumentEqualsPinLaw", "len", "(I)I"⟩ : MethodName)) hown (mvT hZ (hw _ (List.mem_of_getElem? (i := 7) rfl))) (mvT hZ (hw _ (List.mem_of_getElem? (i := 8) rfl))) (mvT hZ (hw _ (List.mem_of_getElem? (i := 5) rfl))) (mvT hZ (hw _ (List.mem_of_getElem? (i := 9) rfl))) (by decide) (backOf (W := 0) (rmLen l Z a0 hw [] p2 h0 n0 Z0 ) hZ (hw _ (List.mem_of_getElem? (i := 9) rfl)) (hw _ (List.mem_of_getElem? (i := 5) rfl)) (by decide) (by decide)) (g := (mkF m 7 #[.val (.int p1), .val (.int p2), .val (.int p3), .val (.int p4), .val (.int (own_len p1)), .unset] [(.int p2)])) rfl (by rw [hml]; rfl) (argsL := [(.int p2)]) (rest := []) (lenOf pd_1 rfl) rfl (by show 2 * 0 + _ ≤ _; exact Nat.le_of_eq rfl) (hb hby d9_7) (fun _ _ => ⟨rfl, e101, (by decide : 0 + 0 ≤ _), (by decide : 0 + 0 ≤ _)⟩)
  dsimp only [Pt.U, Pt.locs, Pt.cells, Pt.slots] at X102 l102 y102 z102 st102 hQ102
  subst l102 y102 z102
  obtain ⟨rfl, N102q, e102⟩ := hQ102
  have N102 := Fr.app N101 N102q
  have h1 : own_l3 (own_len p1) := own_3 p1
  have h4 : own_l3 (own_len p2) := own_3 p2
  have pre103 : ∀ t_, Steps p.tables e below (T102.setTop (mkF m 16 #[.val (.int p1), .val (.int p2), .val (.int p3), .val (.int p4), .val (.int (own_len p1)), .val (.int (own_len p2))] [(.int (own_len p2)), (.int (own_len p1))])) t_ → Steps p.tables e below (s₁.setTop (entryFrame m #[(.int p1), (.int p2), (.int p3), (.int p4)] 6)) t_ := fun t_ k_ => pre0 _ (by
    show Steps p.tables e below (s₁.setTop (mkF m 0 #[.val (.int p1), .val (.int p2), .val (.int p3), .val (.int p4), .unset, .unset] [])) _
    refine XS.iloadN X0.here hx rfl (hb hby d9_0) rfl ?_
    show Steps p.tables e below (s₁.setTop (mkF m 1 #[.val (.int p1), .val (.int p2), .val (.int p3), .val (.int p4), .unset, .unset] [(.int p1)])) _
    refine st101 _ ?_
    show Steps p.tables e below (T101.setTop (mkF m 4 #[.val (.int p1), .val (.int p2), .val (.int p3), .val (.int p4), .unset, .unset] [(.int (own_len p1))])) _
    refine XS.istore X101.here hx rfl (hb hby d9_4) rfl (l' := #[.val (.int p1), .val (.int p2), .val (.int p3), .val (.int p4), .val (.int (own_len p1)), .unset]) rfl ?_
    show Steps p.tables e below (T101.setTop (mkF m 6 #[.val (.int p1), .val (.int p2), .val (.int p3), .val (.int p4), .val (.int (own_len p1)), .unset] [])) _
    refine XS.iloadN X101.here hx rfl (hb hby d9_6) rfl ?_
    show Steps p.tables e below (T101.setTop (mkF m 7 #[.val (.int p1), .val (.int p2), .val (.int p3), .val (.int p4), .val (.int (own_len p1)), .unset] [(.int p2)])) _
    refine st102 _ ?_
    show Steps p.tables e below (T102.setTop (mkF m 10 #[.val (.int p1), .val (.int p2), .val (.int p3), .val (.int p4), .val (.int (own_len p1)), .unset] [(.int (own_len p2))])) _
    refine XS.istore X102.here hx rfl (hb hby d9_10) rfl (l' := #[.val (.int p1), .val (.int p2), .val (.int p3), .val (.int p4), .val (.int (own_len p1)), .val (.int (own_len p2))]) rfl ?_
    show Steps p.tables e below (T102.setTop (mkF m 12 #[.val (.int p1), .val (.int p2), .val (.int p3), .val (.int p4), .val (.int (own_len p1)), .val (.int (own_len p2))] [])) _
    refine XS.iload X102.here hx rfl (hb hby d9_12) rfl ?_
    show Steps p.tables e below (T102.setTop (mkF m 14 #[.val (.int p1), .val (.int p2), .val (.int p3), .val (.int p4), .val (.int (own_len p1)), .val (.int (own_len p2))] [(.int (own_len p1))])) _
    refine XS.iload X102.here hx rfl (hb hby d9_14) rfl ?_
    exact k_)
  by_cases he : (own_len p1) = (own_len p2)
  · skip
    have pre104 : ∀ t_, Steps p.tables e below (T102.setTop (mkF m 24 #[.val (.int p1), .val (.int p2), .val (.int p3), .val (.int p4), .val (.int (own_len p1)), .val (.int (own_len p2))] [(.int (1 : Int32)), (.int (own_len p1))])) t_ → Steps p.tables e below (s₁.setTop (entryFrame m #[(.int p1), (.int p2), (.int p3), (.int p4)] 6)) t_ := fun t_ k_ => pre103 _ (by
      show Steps p.tables e below (T102.setTop (mkF m 16 #[.val (.int p1), .val (.int p2), .val (.int p3), .val (.int p4), .val (.int (own_len p1)), .val (.int (own_len p2))] [(.int (own_len p2)), (.int (own_len p1))])) _
      refine XS.icmpYes X102.here hx rfl (pc0 := 16) (pc' := 21) rfl (hb hby d9_16) rfl (teq he).1 (by decide) (by decide) ?_
      show Steps p.tables e below (T102.setTop (mkF m 21 #[.val (.int p1), .val (.int p2), .val (.int p3), .val (.int p4), .val (.int (own_len p1)), .val (.int (own_len p2))] [])) _
      refine XS.iload X102.here hx rfl (hb hby d9_21) rfl ?_
      show Steps p.tables e below (T102.setTop (mkF m 23 #[.val (.int p1), .val (.int p2), .val (.int p3), .val (.int p4), .val (.int (own_len p1)), .val (.int (own_len p2))] [(.int (own_len p1))])) _
      refine XS.iconst X102.here hx rfl (hb hby d9_23) ?_
      exact k_)
    by_cases hl1 : (own_len p1) < (1 : Int32)
    · skip
      have pre105 : ∀ t_, Steps p.tables e below (T102.setTop (mkF m 76 #[.val (.int p1), .val (.int p2), .val (.int p3), .val (.int p4), .val (.int (own_len p1)), .val (.int (own_len p2))] [(.int (1 : Int32))])) t_ → Steps p.tables e below (s₁.setTop (entryFrame m #[(.int p1), (.int p2), (.int p3), (.int p4)] 6)) t_ := fun t_ k_ => pre104 _ (by
        show Steps p.tables e below (T102.setTop (mkF m 24 #[.val (.int p1), .val (.int p2), .val (.int p3), .val (.int p4), .val (.int (own_len p1)), .val (.int (own_len p2))] [(.int (1 : Int32)), (.int (own_len p1))])) _
        refine XS.icmpYes X102.here hx rfl (pc0 := 24) (pc' := 48) rfl (hb hby d9_24) rfl (tlt hl1).1 (by decide) (by decide) ?_
        show Steps p.tables e below (T102.setTop (mkF m 48 #[.val (.int p1), .val (.int p2), .val (.int p3), .val (.int p4), .val (.int (own_len p1)), .val (.int (own_len p2))] [])) _
        refine XS.iload X102.here hx rfl (hb hby d9_48) rfl ?_
        show Steps p.tables e below (T102.setTop (mkF m 50 #[.val (.int p1), .val (.int p2), .val (.int p3), .val (.int p4), .val (.int (own_len p1)), .val (.int (own_len p2))] [(.int (own_len p1))])) _
        refine XS.iconst X102.here hx rfl (hb hby d9_50) ?_
        show Steps p.tables e below (T102.setTop (mkF m 51 #[.val (.int p1), .val (.int p2), .val (.int p3), .val (.int p4), .val (.int (own_len p1)), .val (.int (own_len p2))] [(.int (2 : Int32)), (.int (own_len p1))])) _
        refine XS.icmpYes X102.here hx rfl (pc0 := 51) (pc' := 75) rfl (hb hby d9_51) rfl (tlt (Int32.lt_trans hl1 (by decide))).1 (by decide) (by decide) ?_
        show Steps p.tables e below (T102.setTop (mkF m 75 #[.val (.int p1), .val (.int p2), .val (.int p3), .val (.int p4), .val (.int (own_len p1)), .val (.int (own_len p2))] [])) _
        refine XS.iconst X102.here hx rfl (hb hby d9_75) ?_
        exact k_)
      obtain ⟨fs, hr, hrun, hended, hW, hsame⟩ := X102.leave (v := some (.int (1 : Int32))) (fun h => by rw [Bd.returns] at h; cases h)
      refine ⟨_, _, pre105 _ ?_, hrun, hended, _, _, rfl, ?_, ⟨_, rfl⟩, hW, hsame.mono (by decide) (by decide)⟩
      · show Steps p.tables e below (T102.setTop (mkF m 76 #[.val (.int p1), .val (.int p2), .val (.int p3), .val (.int p4), .val (.int (own_len p1)), .val (.int (own_len p2))] [(.int (1 : Int32))])) _
        exact retN X102 hx (t := .boolean) Bd.returns (by simp) (hb hby d9_76) hr
      · show QrmSame Z p1 p2 p3 p4 h0 n0 _ T102.heap _
        rw [e102]
        exact ⟨by rw [if_pos (show own_ds p1 p3 p4 = own_ds p2 p3 p4 from own_sm2 h1 he hl1)], N102, rfl⟩
    · skip
      obtain ⟨_, _, ⟨T106, L106, k106, n106⟩, -, X106, ⟨Lc106, hQ106, l106, y106, z106⟩, st106⟩ := Jvm.LawKit.callS X102 hx (y := (⟨"com/example/cranfield/cranfield/model/DocumentEqualsPinLaw", "ch", "(ICC)C"⟩ : MethodName)) hown (mvT hZ (hw _ (List.mem_of_getElem? (i := 10) rfl))) (mvT hZ (hw _ (List.mem_of_getElem? (i := 11) rfl))) (mvT hZ (hw _ (List.mem_of_getElem? (i := 5) rfl))) (mvT hZ (hw _ (List.mem_of_getElem? (i := 12) rfl))) (by decide) (backOf (W := 0) (rmCh l Z a0 hw [] (p1 >>> ((2 : Int32) &&& 31)) p3 p4 h0 n0 Z0 b3 b4) hZ (hw _ (List.mem_of_getElem? (i := 12) rfl)) (hw _ (List.mem_of_getElem? (i := 5) rfl)) (by decide) (by decide)) (g := (mkF m 32 #[.val (.int p1), .val (.int p2), .val (.int p3), .val (.int p4), .val (.int (own_len p1)), .val (.int (own_len p2))] [(.int p4), (.int p3), (.int (p1 >>> ((2 : Int32) &&& 31)))])) rfl (by rw [hml]; rfl) (argsL := [(.int (p1 >>> ((2 : Int32) &&& 31))), (.int p3), (.int p4)]) (rest := []) (lenOf pd_2 rfl) rfl (by show 2 * 0 + _ ≤ _; exact Nat.le_of_eq rfl) (hb hby d9_32) (fun _ _ => ⟨rfl, e102, (by decide : 0 + 0 ≤ _), (by decide : 0 + 0 ≤ _)⟩)
      dsimp only [Pt.U, Pt.locs, Pt.cells, Pt.slots] at X106 l106 y106 z106 st106 hQ106
      subst l106 y106 z106
      obtain ⟨rfl, N106q, e106⟩ := hQ106
      have N106 := Fr.app N102 N106q
      obtain ⟨_, _, ⟨T107, L107, k107, n107⟩, -, X107, ⟨Lc107, hQ107, l107, y107, z107⟩, st107⟩ := Jvm.LawKit.callS X106 hx (y := (⟨"com/example/cranfield/cranfield/model/DocumentEqualsPinLaw", "ch", "(ICC)C"⟩ : MethodName)) hown (mvT hZ (hw _ (List.mem_of_getElem? (i := 10) rfl))) (mvT hZ (hw _ (List.mem_of_getElem? (i := 11) rfl))) (mvT hZ (hw _ (List.mem_of_getElem? (i := 5) rfl))) (mvT hZ (hw _ (List.mem_of_getElem? (i := 12) rfl))) (by decide) (backOf (W := 1) (rmCh l Z a0 hw [] (p2 >>> ((2 : Int32) &&& 31)) p3 p4 h0 n0 Z0 b3 b4) hZ (hw _ (List.mem_of_getElem? (i := 12) rfl)) (hw _ (List.mem_of_getElem? (i := 5) rfl)) (by decide) (by decide)) (g := (mkF m 40 #[.val (.int p1), .val (.int p2), .val (.int p3), .val (.int p4), .val (.int (own_len p1)), .val (.int (own_len p2))] [(.int p4), (.int p3), (.int (p2 >>> ((2 : Int32) &&& 31))), (.int (own_ch (p1 >>> ((2 : Int32) &&& 31)) p3 p4))])) rfl (by rw [hml]; rfl) (argsL := [(.int (p2 >>> ((2 : Int32) &&& 31))), (.int p3), (.int p4)]) (rest := [(.int (own_ch (p1 >>> ((2 : Int32) &&& 31)) p3 p4))]) (lenOf pd_2 rfl) rfl (by show 2 * 0 + _ ≤ _; exact Nat.le_of_eq rfl) (hb hby d9_40) (fun _ _ => ⟨rfl, e106, (by decide : 0 + 0 ≤ _), (by decide : 0 + 0 ≤ _)⟩)
      dsimp only [Pt.U, Pt.locs, Pt.cells, Pt.slots] at X107 l107 y107 z107 st107 hQ107
      subst l107 y107 z107
      obtain ⟨rfl, N107q, e107⟩ := hQ107
      have N107 := Fr.app N106 N107q
      have pre108 : ∀ t_, Steps p.tables e below (T107.setTop (mkF m 43 #[.val (.int p1), .val (.int p2), .val (.int p3), .val (.int p4), .val (.int (own_len p1)), .val (.int (own_len p2))] [(.int (own_ch (p2 >>> ((2 : Int32) &&& 31)) p3 p4)), (.int (own_ch (p1 >>> ((2 : Int32) &&& 31)) p3 p4))])) t_ → Steps p.tables e below (s₁.setTop (entryFrame m #[(.int p1), (.int p2), (.int p3), (.int p4)] 6)) t_ := fun t_ k_ => pre104 _ (by
        show Steps p.tables e below (T102.setTop (mkF m 24 #[.val (.int p1), .val (.int p2), .val (.int p3), .val (.int p4), .val (.int (own_len p1)), .val (.int (own_len p2))] [(.int (1 : Int32)), (.int (own_len p1))])) _
        refine XS.icmpNo X102.here hx rfl (hb hby d9_24) rfl (flt hl1).1 ?_
        show Steps p.tables e below (T102.setTop (mkF m 27 #[.val (.int p1), .val (.int p2), .val (.int p3), .val (.int p4), .val (.int (own_len p1)), .val (.int (own_len p2))] [])) _
        refine XS.iloadN X102.here hx rfl (hb hby d9_27) rfl ?_
        show Steps p.tables e below (T102.setTop (mkF m 28 #[.val (.int p1), .val (.int p2), .val (.int p3), .val (.int p4), .val (.int (own_len p1)), .val (.int (own_len p2))] [(.int p1)])) _
        refine XS.iconst X102.here hx rfl (hb hby d9_28) ?_
        show Steps p.tables e below (T102.setTop (mkF m 29 #[.val (.int p1), .val (.int p2), .val (.int p3), .val (.int p4), .val (.int (own_len p1)), .val (.int (own_len p2))] [(.int (2 : Int32)), (.int p1)])) _
        refine XS.ishr X102.here hx rfl (hb hby d9_29) rfl ?_
        show Steps p.tables e below (T102.setTop (mkF m 30 #[.val (.int p1), .val (.int p2), .val (.int p3), .val (.int p4), .val (.int (own_len p1)), .val (.int (own_len p2))] [(.int (p1 >>> ((2 : Int32) &&& 31)))])) _
        refine XS.iloadN X102.here hx rfl (hb hby d9_30) rfl ?_
        show Steps p.tables e below (T102.setTop (mkF m 31 #[.val (.int p1), .val (.int p2), .val (.int p3), .val (.int p4), .val (.int (own_len p1)), .val (.int (own_len p2))] [(.int p3), (.int (p1 >>> ((2 : Int32) &&& 31)))])) _
        refine XS.iloadN X102.here hx rfl (hb hby d9_31) rfl ?_
        show Steps p.tables e below (T102.setTop (mkF m 32 #[.val (.int p1), .val (.int p2), .val (.int p3), .val (.int p4), .val (.int (own_len p1)), .val (.int (own_len p2))] [(.int p4), (.int p3), (.int (p1 >>> ((2 : Int32) &&& 31)))])) _
        refine st106 _ ?_
        show Steps p.tables e below (T106.setTop (mkF m 35 #[.val (.int p1), .val (.int p2), .val (.int p3), .val (.int p4), .val (.int (own_len p1)), .val (.int (own_len p2))] [(.int (own_ch (p1 >>> ((2 : Int32) &&& 31)) p3 p4))])) _
        refine XS.iloadN X106.here hx rfl (hb hby d9_35) rfl ?_
        show Steps p.tables e below (T106.setTop (mkF m 36 #[.val (.int p1), .val (.int p2), .val (.int p3), .val (.int p4), .val (.int (own_len p1)), .val (.int (own_len p2))] [(.int p2), (.int (own_ch (p1 >>> ((2 : Int32) &&& 31)) p3 p4))])) _
        refine XS.iconst X106.here hx rfl (hb hby d9_36) ?_
        show Steps p.tables e below (T106.setTop (mkF m 37 #[.val (.int p1), .val (.int p2), .val (.int p3), .val (.int p4), .val (.int (own_len p1)), .val (.int (own_len p2))] [(.int (2 : Int32)), (.int p2), (.int (own_ch (p1 >>> ((2 : Int32) &&& 31)) p3 p4))])) _
        refine XS.ishr X106.here hx rfl (hb hby d9_37) rfl ?_
        show Steps p.tables e below (T106.setTop (mkF m 38 #[.val (.int p1), .val (.int p2), .val (.int p3), .val (.int p4), .val (.int (own_len p1)), .val (.int (own_len p2))] [(.int (p2 >>> ((2 : Int32) &&& 31))), (.int (own_ch (p1 >>> ((2 : Int32) &&& 31)) p3 p4))])) _
        refine XS.iloadN X106.here hx rfl (hb hby d9_38) rfl ?_
        show Steps p.tables e below (T106.setTop (mkF m 39 #[.val (.int p1), .val (.int p2), .val (.int p3), .val (.int p4), .val (.int (own_len p1)), .val (.int (own_len p2))] [(.int p3), (.int (p2 >>> ((2 : Int32) &&& 31))), (.int (own_ch (p1 >>> ((2 : Int32) &&& 31)) p3 p4))])) _
        refine XS.iloadN X106.here hx rfl (hb hby d9_39) rfl ?_
        show Steps p.tables e below (T106.setTop (mkF m 40 #[.val (.int p1), .val (.int p2), .val (.int p3), .val (.int p4), .val (.int (own_len p1)), .val (.int (own_len p2))] [(.int p4), (.int p3), (.int (p2 >>> ((2 : Int32) &&& 31))), (.int (own_ch (p1 >>> ((2 : Int32) &&& 31)) p3 p4))])) _
        refine st107 _ ?_
        exact k_)
      by_cases h25 : (own_ch (p1 >>> ((2 : Int32) &&& 31)) p3 p4) = (own_ch (p2 >>> ((2 : Int32) &&& 31)) p3 p4)
      · skip
        have pre109 : ∀ t_, Steps p.tables e below (T107.setTop (mkF m 51 #[.val (.int p1), .val (.int p2), .val (.int p3), .val (.int p4), .val (.int (own_len p1)), .val (.int (own_len p2))] [(.int (2 : Int32)), (.int (own_len p1))])) t_ → Steps p.tables e below (s₁.setTop (entryFrame m #[(.int p1), (.int p2), (.int p3), (.int p4)] 6)) t_ := fun t_ k_ => pre108 _ (by
          show Steps p.tables e below (T107.setTop (mkF m 43 #[.val (.int p1), .val (.int p2), .val (.int p3), .val (.int p4), .val (.int (own_len p1)), .val (.int (own_len p2))] [(.int (own_ch (p2 >>> ((2 : Int32) &&& 31)) p3 p4)), (.int (own_ch (p1 >>> ((2 : Int32) &&& 31)) p3 p4))])) _
          refine XS.icmpYes X107.here hx rfl (pc0 := 43) (pc' := 48) rfl (hb hby d9_43) rfl (teq h25).1 (by decide) (by decide) ?_
          show Steps p.tables e below (T107.setTop (mkF m 48 #[.val (.int p1), .val (.int p2), .val (.int p3), .val (.int p4), .val (.int (own_len p1)), .val (.int (own_len p2))] [])) _
          refine XS.iload X107.here hx rfl (hb hby d9_48) rfl ?_
          show Steps p.tables e below (T107.setTop (mkF m 50 #[.val (.int p1), .val (.int p2), .val (.int p3), .val (.int p4), .val (.int (own_len p1)), .val (.int (own_len p2))] [(.int (own_len p1))])) _
          refine XS.iconst X107.here hx rfl (hb hby d9_50) ?_
          exact k_)
        by_cases hl2 : (own_len p1) < (2 : Int32)
        · skip
          have pre110 : ∀ t_, Steps p.tables e below (T107.setTop (mkF m 76 #[.val (.int p1), .val (.int p2), .val (.int p3), .val (.int p4), .val (.int (own_len p1)), .val (.int (own_len p2))] [(.int (1 : Int32))])) t_ → Steps p.tables e below (s₁.setTop (entryFrame m #[(.int p1), (.int p2), (.int p3), (.int p4)] 6)) t_ := fun t_ k_ => pre109 _ (by
            show Steps p.tables e below (T107.setTop (mkF m 51 #[.val (.int p1), .val (.int p2), .val (.int p3), .val (.int p4), .val (.int (own_len p1)), .val (.int (own_len p2))] [(.int (2 : Int32)), (.int (own_len p1))])) _
            refine XS.icmpYes X107.here hx rfl (pc0 := 51) (pc' := 75) rfl (hb hby d9_51) rfl (tlt hl2).1 (by decide) (by decide) ?_
            show Steps p.tables e below (T107.setTop (mkF m 75 #[.val (.int p1), .val (.int p2), .val (.int p3), .val (.int p4), .val (.int (own_len p1)), .val (.int (own_len p2))] [])) _
            refine XS.iconst X107.here hx rfl (hb hby d9_75) ?_
            exact k_)
          obtain ⟨fs, hr, hrun, hended, hW, hsame⟩ := X107.leave (v := some (.int (1 : Int32))) (fun h => by rw [Bd.returns] at h; cases h)
          refine ⟨_, _, pre110 _ ?_, hrun, hended, _, _, rfl, ?_, ⟨_, rfl⟩, hW, hsame.mono (by decide) (by decide)⟩
          · show Steps p.tables e below (T107.setTop (mkF m 76 #[.val (.int p1), .val (.int p2), .val (.int p3), .val (.int p4), .val (.int (own_len p1)), .val (.int (own_len p2))] [(.int (1 : Int32))])) _
            exact retN X107 hx (t := .boolean) Bd.returns (by simp) (hb hby d9_76) hr
          · show QrmSame Z p1 p2 p3 p4 h0 n0 _ T107.heap _
            rw [e107]
            exact ⟨by rw [if_pos (show own_ds p1 p3 p4 = own_ds p2 p3 p4 from own_sm4 h1 he hl1 hl2 h25)], N107, rfl⟩
        · skip
          obtain ⟨_, _, ⟨T111, L111, k111, n111⟩, -, X111, ⟨Lc111, hQ111, l111, y111, z111⟩, st111⟩ := Jvm.LawKit.callS X107 hx (y := (⟨"com/example/cranfield/cranfield/model/DocumentEqualsPinLaw", "ch", "(ICC)C"⟩ : MethodName)) hown (mvT hZ (hw _ (List.mem_of_getElem? (i := 10) rfl))) (mvT hZ (hw _ (List.mem_of_getElem? (i := 11) rfl))) (mvT hZ (hw _ (List.mem_of_getElem? (i := 5) rfl))) (mvT hZ (hw _ (List.mem_of_getElem? (i := 12) rfl))) (by decide) (backOf (W := 0) (rmCh l Z a0 hw [] (p1 >>> ((3 : Int32) &&& 31)) p3 p4 h0 n0 Z0 b3 b4) hZ (hw _ (List.mem_of_getElem? (i := 12) rfl)) (hw _ (List.mem_of_getElem? (i := 5) rfl)) (by decide) (by decide)) (g := (mkF m 59 #[.val (.int p1), .val (.int p2), .val (.int p3), .val (.int p4), .val (.int (own_len p1)), .val (.int (own_len p2))] [(.int p4), (.int p3), (.int (p1 >>> ((3 : Int32) &&& 31)))])) rfl (by rw [hml]; rfl) (argsL := [(.int (p1 >>> ((3 : Int32) &&& 31))), (.int p3), (.int p4)]) (rest := []) (lenOf pd_2 rfl) rfl (by show 2 * 0 + _ ≤ _; exact Nat.le_of_eq rfl) (hb hby d9_59) (fun _ _ => ⟨rfl, e107, (by decide : 0 + 0 ≤ _), (by decide : 0 + 0 ≤ _)⟩)
          dsimp only [Pt.U, Pt.locs, Pt.cells, Pt.slots] at X111 l111 y111 z111 st111 hQ111
          subst l111 y111 z111
          obtain ⟨rfl, N111q, e111⟩ := hQ111
          have N111 := Fr.app N107 N111q
          obtain ⟨_, _, ⟨T112, L112, k112, n112⟩, -, X112, ⟨Lc112, hQ112, l112, y112, z112⟩, st112⟩ := Jvm.LawKit.callS X111 hx (y := (⟨"com/example/cranfield/cranfield/model/DocumentEqualsPinLaw", "ch", "(ICC)C"⟩ : MethodName)) hown (mvT hZ (hw _ (List.mem_of_getElem? (i := 10) rfl))) (mvT hZ (hw _ (List.mem_of_getElem? (i := 11) rfl))) (mvT hZ (hw _ (List.mem_of_getElem? (i := 5) rfl))) (mvT hZ (hw _ (List.mem_of_getElem? (i := 12) rfl))) (by decide) (backOf (W := 1) (rmCh l Z a0 hw [] (p2 >>> ((3 : Int32) &&& 31)) p3 p4 h0 n0 Z0 b3 b4) hZ (hw _ (List.mem_of_getElem? (i := 12) rfl)) (hw _ (List.mem_of_getElem? (i := 5) rfl)) (by decide) (by decide)) (g := (mkF m 67 #[.val (.int p1), .val (.int p2), .val (.int p3), .val (.int p4), .val (.int (own_len p1)), .val (.int (own_len p2))] [(.int p4), (.int p3), (.int (p2 >>> ((3 : Int32) &&& 31))), (.int (own_ch (p1 >>> ((3 : Int32) &&& 31)) p3 p4))])) rfl (by rw [hml]; rfl) (argsL := [(.int (p2 >>> ((3 : Int32) &&& 31))), (.int p3), (.int p4)]) (rest := [(.int (own_ch (p1 >>> ((3 : Int32) &&& 31)) p3 p4))]) (lenOf pd_2 rfl) rfl (by show 2 * 0 + _ ≤ _; exact Nat.le_of_eq rfl) (hb hby d9_67) (fun _ _ => ⟨rfl, e111, (by decide : 0 + 0 ≤ _), (by decide : 0 + 0 ≤ _)⟩)
          dsimp only [Pt.U, Pt.locs, Pt.cells, Pt.slots] at X112 l112 y112 z112 st112 hQ112
          subst l112 y112 z112
          obtain ⟨rfl, N112q, e112⟩ := hQ112
          have N112 := Fr.app N111 N112q
          have pre113 : ∀ t_, Steps p.tables e below (T112.setTop (mkF m 70 #[.val (.int p1), .val (.int p2), .val (.int p3), .val (.int p4), .val (.int (own_len p1)), .val (.int (own_len p2))] [(.int (own_ch (p2 >>> ((3 : Int32) &&& 31)) p3 p4)), (.int (own_ch (p1 >>> ((3 : Int32) &&& 31)) p3 p4))])) t_ → Steps p.tables e below (s₁.setTop (entryFrame m #[(.int p1), (.int p2), (.int p3), (.int p4)] 6)) t_ := fun t_ k_ => pre109 _ (by
            show Steps p.tables e below (T107.setTop (mkF m 51 #[.val (.int p1), .val (.int p2), .val (.int p3), .val (.int p4), .val (.int (own_len p1)), .val (.int (own_len p2))] [(.int (2 : Int32)), (.int (own_len p1))])) _
            refine XS.icmpNo X107.here hx rfl (hb hby d9_51) rfl (flt hl2).1 ?_
            show Steps p.tables e below (T107.setTop (mkF m 54 #[.val (.int p1), .val (.int p2), .val (.int p3), .val (.int p4), .val (.int (own_len p1)), .val (.int (own_len p2))] [])) _
            refine XS.iloadN X107.here hx rfl (hb hby d9_54) rfl ?_
            show Steps p.tables e below (T107.setTop (mkF m 55 #[.val (.int p1), .val (.int p2), .val (.int p3), .val (.int p4), .val (.int (own_len p1)), .val (.int (own_len p2))] [(.int p1)])) _
            refine XS.iconst X107.here hx rfl (hb hby d9_55) ?_
            show Steps p.tables e below (T107.setTop (mkF m 56 #[.val (.int p1), .val (.int p2), .val (.int p3), .val (.int p4), .val (.int (own_len p1)), .val (.int (own_len p2))] [(.int (3 : Int32)), (.int p1)])) _
            refine XS.ishr X107.here hx rfl (hb hby d9_56) rfl ?_
            show Steps p.tables e below (T107.setTop (mkF m 57 #[.val (.int p1), .val (.int p2), .val (.int p3), .val (.int p4), .val (.int (own_len p1)), .val (.int (own_len p2))] [(.int (p1 >>> ((3 : Int32) &&& 31)))])) _
            refine XS.iloadN X107.here hx rfl (hb hby d9_57) rfl ?_
            show Steps p.tables e below (T107.setTop (mkF m 58 #[.val (.int p1), .val (.int p2), .val (.int p3), .val (.int p4), .val (.int (own_len p1)), .val (.int (own_len p2))] [(.int p3), (.int (p1 >>> ((3 : Int32) &&& 31)))])) _
            refine XS.iloadN X107.here hx rfl (hb hby d9_58) rfl ?_
            show Steps p.tables e below (T107.setTop (mkF m 59 #[.val (.int p1), .val (.int p2), .val (.int p3), .val (.int p4), .val (.int (own_len p1)), .val (.int (own_len p2))] [(.int p4), (.int p3), (.int (p1 >>> ((3 : Int32) &&& 31)))])) _
            refine st111 _ ?_
            show Steps p.tables e below (T111.setTop (mkF m 62 #[.val (.int p1), .val (.int p2), .val (.int p3), .val (.int p4), .val (.int (own_len p1)), .val (.int (own_len p2))] [(.int (own_ch (p1 >>> ((3 : Int32) &&& 31)) p3 p4))])) _
            refine XS.iloadN X111.here hx rfl (hb hby d9_62) rfl ?_
            show Steps p.tables e below (T111.setTop (mkF m 63 #[.val (.int p1), .val (.int p2), .val (.int p3), .val (.int p4), .val (.int (own_len p1)), .val (.int (own_len p2))] [(.int p2), (.int (own_ch (p1 >>> ((3 : Int32) &&& 31)) p3 p4))])) _
            refine XS.iconst X111.here hx rfl (hb hby d9_63) ?_
            show Steps p.tables e below (T111.setTop (mkF m 64 #[.val (.int p1), .val (.int p2), .val (.int p3), .val (.int p4), .val (.int (own_len p1)), .val (.int (own_len p2))] [(.int (3 : Int32)), (.int p2), (.int (own_ch (p1 >>> ((3 : Int32) &&& 31)) p3 p4))])) _
            refine XS.ishr X111.here hx rfl (hb hby d9_64) rfl ?_
            show Steps p.tables e below (T111.setTop (mkF m 65 #[.val (.int p1), .val (.int p2), .val (.int p3), .val (.int p4), .val (.int (own_len p1)), .val (.int (own_len p2))] [(.int (p2 >>> ((3 : Int32) &&& 31))), (.int (own_ch (p1 >>> ((3 : Int32) &&& 31)) p3 p4))])) _
            refine XS.iloadN X111.here hx rfl (hb hby d9_65) rfl ?_
            show Steps p.tables e below (T111.setTop (mkF m 66 #[.val (.int p1), .val (.int p2), .val (.int p3), .val (.int p4), .val (.int (own_len p1)), .val (.int (own_len p2))] [(.int p3), (.int (p2 >>> ((3 : Int32) &&& 31))), (.int (own_ch (p1 >>> ((3 : Int32) &&& 31)) p3 p4))])) _
            refine XS.iloadN X111.here hx rfl (hb hby d9_66) rfl ?_
            show Steps p.tables e below (T111.setTop (mkF m 67 #[.val (.int p1), .val (.int p2), .val (.int p3), .val (.int p4), .val (.int (own_len p1)), .val (.int (own_len p2))] [(.int p4), (.int p3), (.int (p2 >>> ((3 : Int32) &&& 31))), (.int (own_ch (p1 >>> ((3 : Int32) &&& 31)) p3 p4))])) _
            refine st112 _ ?_
            exact k_)
          by_cases h36 : (own_ch (p1 >>> ((3 : Int32) &&& 31)) p3 p4) = (own_ch (p2 >>> ((3 : Int32) &&& 31)) p3 p4)
          · skip
            have pre114 : ∀ t_, Steps p.tables e below (T112.setTop (mkF m 76 #[.val (.int p1), .val (.int p2), .val (.int p3), .val (.int p4), .val (.int (own_len p1)), .val (.int (own_len p2))] [(.int (1 : Int32))])) t_ → Steps p.tables e below (s₁.setTop (entryFrame m #[(.int p1), (.int p2), (.int p3), (.int p4)] 6)) t_ := fun t_ k_ => pre113 _ (by
              show Steps p.tables e below (T112.setTop (mkF m 70 #[.val (.int p1), .val (.int p2), .val (.int p3), .val (.int p4), .val (.int (own_len p1)), .val (.int (own_len p2))] [(.int (own_ch (p2 >>> ((3 : Int32) &&& 31)) p3 p4)), (.int (own_ch (p1 >>> ((3 : Int32) &&& 31)) p3 p4))])) _
              refine XS.icmpYes X112.here hx rfl (pc0 := 70) (pc' := 75) rfl (hb hby d9_70) rfl (teq h36).1 (by decide) (by decide) ?_
              show Steps p.tables e below (T112.setTop (mkF m 75 #[.val (.int p1), .val (.int p2), .val (.int p3), .val (.int p4), .val (.int (own_len p1)), .val (.int (own_len p2))] [])) _
              refine XS.iconst X112.here hx rfl (hb hby d9_75) ?_
              exact k_)
            obtain ⟨fs, hr, hrun, hended, hW, hsame⟩ := X112.leave (v := some (.int (1 : Int32))) (fun h => by rw [Bd.returns] at h; cases h)
            refine ⟨_, _, pre114 _ ?_, hrun, hended, _, _, rfl, ?_, ⟨_, rfl⟩, hW, hsame.mono (by decide) (by decide)⟩
            · show Steps p.tables e below (T112.setTop (mkF m 76 #[.val (.int p1), .val (.int p2), .val (.int p3), .val (.int p4), .val (.int (own_len p1)), .val (.int (own_len p2))] [(.int (1 : Int32))])) _
              exact retN X112 hx (t := .boolean) Bd.returns (by simp) (hb hby d9_76) hr
            · show QrmSame Z p1 p2 p3 p4 h0 n0 _ T112.heap _
              rw [e112]
              exact ⟨by rw [if_pos (show own_ds p1 p3 p4 = own_ds p2 p3 p4 from own_sm6 he h25 h36)], N112, rfl⟩
          · skip
            have pre115 : ∀ t_, Steps p.tables e below (T112.setTop (mkF m 74 #[.val (.int p1), .val (.int p2), .val (.int p3), .val (.int p4), .val (.int (own_len p1)), .val (.int (own_len p2))] [(.int (0 : Int32))])) t_ → Steps p.tables e below (s₁.setTop (entryFrame m #[(.int p1), (.int p2), (.int p3), (.int p4)] 6)) t_ := fun t_ k_ => pre113 _ (by
              show Steps p.tables e below (T112.setTop (mkF m 70 #[.val (.int p1), .val (.int p2), .val (.int p3), .val (.int p4), .val (.int (own_len p1)), .val (.int (own_len p2))] [(.int (own_ch (p2 >>> ((3 : Int32) &&& 31)) p3 p4)), (.int (own_ch (p1 >>> ((3 : Int32) &&& 31)) p3 p4))])) _
              refine XS.icmpNo X112.here hx rfl (hb hby d9_70) rfl (feq h36).1 ?_
              show Steps p.tables e below (T112.setTop (mkF m 73 #[.val (.int p1), .val (.int p2), .val (.int p3), .val (.int p4), .val (.int (own_len p1)), .val (.int (own_len p2))] [])) _
              refine XS.iconst X112.here hx rfl (hb hby d9_73) ?_
              exact k_)
            obtain ⟨fs, hr, hrun, hended, hW, hsame⟩ := X112.leave (v := some (.int (0 : Int32))) (fun h => by rw [Bd.returns] at h; cases h)
            refine ⟨_, _, pre115 _ ?_, hrun, hended, _, _, rfl, ?_, ⟨_, rfl⟩, hW, hsame.mono (by decide) (by decide)⟩
            · show Steps p.tables e below (T112.setTop (mkF m 74 #[.val (.int p1), .val (.int p2), .val (.int p3), .val (.int p4), .val (.int (own_len p1)), .val (.int (own_len p2))] [(.int (0 : Int32))])) _
              exact retN X112 hx (t := .boolean) Bd.returns (by simp) (hb hby d9_74) hr
            · show QrmSame Z p1 p2 p3 p4 h0 n0 _ T112.heap _
              rw [e112]
              exact ⟨by rw [if_neg (show ¬ own_ds p1 p3 p4 = own_ds p2 p3 p4 from own_sm5 h1 he hl2 h36)], N112, rfl⟩
      · skip
        have pre116 : ∀ t_, Steps p.tables e below (T107.setTop (mkF m 47 #[.val (.int p1), .val (.int p2), .val (.int p3), .val (.int p4), .val (.int (own_len p1)), .val (.int (own_len p2))] [(.int (0 : Int32))])) t_ → Steps p.tables e below (s₁.setTop (entryFrame m #[(.int p1), (.int p2), (.int p3), (.int p4)] 6)) t_ := fun t_ k_ => pre108 _ (by
          show Steps p.tables e below (T107.setTop (mkF m 43 #[.val (.int p1), .val (.int p2), .val (.int p3), .val (.int p4), .val (.int (own_len p1)), .val (.int (own_len p2))] [(.int (own_ch (p2 >>> ((2 : Int32) &&& 31)) p3 p4)), (.int (own_ch (p1 >>> ((2 : Int32) &&& 31)) p3 p4))])) _
          refine XS.icmpNo X107.here hx rfl (hb hby d9_43) rfl (feq h25).1 ?_
          show Steps p.tables e below (T107.setTop (mkF m 46 #[.val (.int p1), .val (.int p2), .val (.int p3), .val (.int p4), .val (.int (own_len p1)), .val (.int (own_len p2))] [])) _
          refine XS.iconst X107.here hx rfl (hb hby d9_46) ?_
          exact k_)
        obtain ⟨fs, hr, hrun, hended, hW, hsame⟩ := X107.leave (v := some (.int (0 : Int32))) (fun h => by rw [Bd.returns] at h; cases h)
        refine ⟨_, _, pre116 _ ?_, hrun, hended, _, _, rfl, ?_, ⟨_, rfl⟩, hW, hsame.mono (by decide) (by decide)⟩
        · show Steps p.tables e below (T107.setTop (mkF m 47 #[.val (.int p1), .val (.int p2), .val (.int p3), .val (.int p4), .val (.int (own_len p1)), .val (.int (own_len p2))] [(.int (0 : Int32))])) _
          exact retN X107 hx (t := .boolean) Bd.returns (by simp) (hb hby d9_47) hr
        · show QrmSame Z p1 p2 p3 p4 h0 n0 _ T107.heap _
          rw [e107]
          exact ⟨by rw [if_neg (show ¬ own_ds p1 p3 p4 = own_ds p2 p3 p4 from own_sm3 h1 he hl1 h25)], N107, rfl⟩
  · skip
    have pre117 : ∀ t_, Steps p.tables e below (T102.setTop (mkF m 20 #[.val (.int p1), .val (.int p2), .val (.int p3), .val (.int p4), .val (.int (own_len p1)), .val (.int (own_len p2))] [(.int (0 : Int32))])) t_ → Steps p.tables e below (s₁.setTop (entryFrame m #[(.int p1), (.int p2), (.int p3), (.int p4)] 6)) t_ := fun t_ k_ => pre103 _ (by
      show Steps p.tables e below (T102.setTop (mkF m 16 #[.val (.int p1), .val (.int p2), .val (.int p3), .val (.int p4), .val (.int (own_len p1)), .val (.int (own_len p2))] [(.int (own_len p2)), (.int (own_len p1))])) _
      refine XS.icmpNo X102.here hx rfl (hb hby d9_16) rfl (feq he).1 ?_
      show Steps p.tables e below (T102.setTop (mkF m 19 #[.val (.int p1), .val (.int p2), .val (.int p3), .val (.int p4), .val (.int (own_len p1)), .val (.int (own_len p2))] [])) _
      refine XS.iconst X102.here hx rfl (hb hby d9_19) ?_
      exact k_)
    obtain ⟨fs, hr, hrun, hended, hW, hsame⟩ := X102.leave (v := some (.int (0 : Int32))) (fun h => by rw [Bd.returns] at h; cases h)
    refine ⟨_, _, pre117 _ ?_, hrun, hended, _, _, rfl, ?_, ⟨_, rfl⟩, hW, hsame.mono (by decide) (by decide)⟩
    · show Steps p.tables e below (T102.setTop (mkF m 20 #[.val (.int p1), .val (.int p2), .val (.int p3), .val (.int p4), .val (.int (own_len p1)), .val (.int (own_len p2))] [(.int (0 : Int32))])) _
      exact retN X102 hx (t := .boolean) Bd.returns (by simp) (hb hby d9_20) hr
    · show QrmSame Z p1 p2 p3 p4 h0 n0 _ T102.heap _
      rw [e102]
      exact ⟨by rw [if_neg (show ¬ own_ds p1 p3 p4 = own_ds p2 p3 p4 from own_sm1 h1 h4 he)], N102, rfl⟩
theorem d8_0 : decode jdk_31_method_11_code 0 = .ok (.aload_n 0, 1) := by decide +kernel
theorem d8_1 : decode jdk_31_method_11_code 1 = .ok (.ifnonnull 12, 3) := by decide +kernel
theorem d8_13 : decode jdk_31_method_11_code 13 = .ok (.aload_n 0, 1) := by decide +kernel
theorem d8_14 : decode jdk_31_method_11_code 14 = .ok (.areturn, 1) := by decide +kernel
theorem pn_2 : plainName "java/util/Objects" = true := by first | (simp [plainName, overriddenIn]; done) | decide +kernel
theorem ef_rmQ (m : MethodId) (x0 : Addr) (x1 : Addr) : entryFrame m #[(.ref x0), (.ref x1)] 2 = mkF m 0 #[.val (.ref x0), .val (.ref x1)] [] := by first | (simp [entryFrame, mkF, argsToLocals, Value.category]; done) | rfl
def QrmQ (Z : State) (a1 : Addr) (a2 : Addr) (h0 : Heap) (n0 : Nat) (v : Option Value) (h : Heap) (L : List Loc) : Prop := v = some (.ref a1) ∧ Fr n0 L ∧ h = h0
set_option maxRecDepth 65536 in
set_option maxHeartbeats 40000000 in
theorem rmQ (l : Launch) (Z : State) (a0 : Array Value) (hw : ∀ d ∈ tables_1, d.before a0 Z = true) (ws : List Jvm.Cond) (a1 : Addr) (a2 : Addr) (h0 : Heap) (n0 : Nat) (Z0 : n0 ≤ h0.size) :
    MetFree l (⟨"java/util/Objects", "requireNonNull", "(Ljava/lang/Object;Ljava/lang/String;)Ljava/lang/Object;"⟩ : MethodName) (head1 (Jvm.Cond.code (⟨"java/util/Objects", "requireNonNull", "(Ljava/lang/Object;Ljava/lang/String;)Ljava/lang/Object;"⟩ : MethodName) jdk_31_method_11_code 2 (some (.object "java/lang/Object")) :: ws) ({ frames := 0, cells := 0, slots := 0, locals := 0 } : Room)) (fun a U => a = #[(.ref a1), (.ref a2)] ∧ Z.Warmed39 U.vm ∧ U.heap = h0) (fun _ _ _ _ _ => True) (fun _ U o U' => ∃ v L, o = .returned v ∧ QrmQ Z a1 a2 h0 n0 v U'.heap L ∧ FrameEnd U o U' L ({ frames := 0, cells := 0, slots := 0, locals := 0 } : Room).cells ({ frames := 0, cells := 0, slots := 0, locals := 0 } : Room).slots) := by
  refine MetFree.of_bodySF (plainFor_of_name pn_2) hisR ?_
  intro p e s m args below meth c s₁ Bd hml0 hP hK
  obtain ⟨rfl, hZ, hh⟩ := hP
  have hx := Bd.exec
  have hby := Bd.bytes
  have hml : c.maxLocals = 2 := hml0
  have hown : s.vm.findClass "java/util/Objects" = some m.cls := findClass_of_methodNamed Bd.named
  have hnm := (name_of_methodNamed Bd.named Bd.method).1
  have X0 : Stand p l e ({ frames := 0, cells := 0, slots := 0, locals := 0 } : Room) s m #[(.ref a1), (.ref a2)] below meth c s₁ [] 0 0 := Stand.of_body Bd
  have e0 : s₁.heap = h0 := by rw [← hh, Bd.state]; rfl
  have N0 := Fr.nil n0
  have pre0 : ∀ t_, Steps p.tables e below (s₁.setTop (mkF m 0 #[.val (.ref a1), .val (.ref a2)] [])) t_ → Steps p.tables e below (s₁.setTop (entryFrame m #[(.ref a1), (.ref a2)] 2)) t_ := fun t_ k_ => castTop (ef_rmQ m a1 a2) k_
  have pre101 : ∀ t_, Steps p.tables e below (s₁.setTop (mkF m 14 #[.val (.ref a1), .val (.ref a2)] [(.ref a1)])) t_ → Steps p.tables e below (s₁.setTop (entryFrame m #[(.ref a1), (.ref a2)] 2)) t_ := fun t_ k_ => pre0 _ (by
    show Steps p.tables e below (s₁.setTop (mkF m 0 #[.val (.ref a1), .val (.ref a2)] [])) _
    refine XS.aloadN X0.here hx rfl (hb hby d8_0) rfl rfl ?_
    show Steps p.tables e below (s₁.setTop (mkF m 1 #[.val (.ref a1), .val (.ref a2)] [(.ref a1)])) _
    refine XS.ifnonnullYes X0.here hx rfl (pc0 := 1) (pc' := 13) rfl (hb hby d8_1) rfl (by decide) (by decide) ?_
    show Steps p.tables e below (s₁.setTop (mkF m 13 #[.val (.ref a1), .val (.ref a2)] [])) _
    refine XS.aloadN X0.here hx rfl (hb hby d8_13) rfl rfl ?_
    exact k_)
  obtain ⟨fs, hr, hrun, hended, hW, hsame⟩ := X0.leave (v := some (.ref a1)) (fun h => by rw [Bd.returns] at h; cases h)
  refine ⟨_, _, pre101 _ ?_, hrun, hended, _, _, rfl, ?_, ⟨_, rfl⟩, hW, hsame.mono (by decide) (by decide)⟩
  · show Steps p.tables e below (s₁.setTop (mkF m 14 #[.val (.ref a1), .val (.ref a2)] [(.ref a1)])) _
    jvm_step X0.here [X0.here.top, hx, (hb hby d8_14), X0.method', Bd.returns, Value.isRef, FieldType.isReference]
    first | (intro acts; rw [hr _ acts rfl rfl rfl]) | rw [hr _ _ rfl rfl rfl]
    exact Steps.refl _
  · show QrmQ Z a1 a2 h0 n0 _ s₁.heap _
    rw [e0]
    exact ⟨rfl, N0, rfl⟩
theorem pd_4 : parseMethodDescriptor "(Ljava/lang/Object;Ljava/lang/String;)Ljava/lang/Object;" = some ⟨[(.object "java/lang/Object"), (.object "java/lang/String")], some (.object "java/lang/Object")⟩ := by decide +kernel
theorem d7_0 : decode prog_56_method_2_code 0 = .ok (.aload_n 0, 1) := by decide +kernel
theorem d7_1 : decode prog_56_method_2_code 1 = .ok (.invokespecial 9, 3) := by decide +kernel
theorem d7_4 : decode prog_56_method_2_code 4 = .ok (.aload_n 0, 1) := by decide +kernel
theorem d7_5 : decode prog_56_method_2_code 5 = .ok (.aload_n 1, 1) := by decide +kernel
theorem d7_6 : decode prog_56_method_2_code 6 = .ok (.ldc 14, 2) := by decide +kernel
theorem d7_8 : decode prog_56_method_2_code 8 = .ok (.invokestatic 16, 3) := by decide +kernel
theorem d7_11 : decode prog_56_method_2_code 11 = .ok (.checkcast 22, 3) := by decide +kernel
theorem d7_14 : decode prog_56_method_2_code 14 = .ok (.putfield 24, 3) := by decide +kernel
theorem d7_17 : decode prog_56_method_2_code 17 = .ok (.aload_n 0, 1) := by decide +kernel
theorem d7_18 : decode prog_56_method_2_code 18 = .ok (.aload_n 2, 1) := by decide +kernel
theorem d7_19 : decode prog_56_method_2_code 19 = .ok (.ldc 27, 2) := by decide +kernel
theorem d7_21 : decode prog_56_method_2_code 21 = .ok (.invokestatic 16, 3) := by decide +kernel
theorem d7_24 : decode prog_56_method_2_code 24 = .ok (.checkcast 22, 3) := by decide +kernel
theorem d7_27 : decode prog_56_method_2_code 27 = .ok (.putfield 29, 3) := by decide +kernel
theorem d7_30 : decode prog_56_method_2_code 30 = .ok (.aload_n 0, 1) := by decide +kernel
theorem d7_31 : decode prog_56_method_2_code 31 = .ok (.aload_n 3, 1) := by decide +kernel
theorem d7_32 : decode prog_56_method_2_code 32 = .ok (.ldc 31, 2) := by decide +kernel
theorem d7_34 : decode prog_56_method_2_code 34 = .ok (.invokestatic 16, 3) := by decide +kernel
theorem d7_37 : decode prog_56_method_2_code 37 = .ok (.checkcast 22, 3) := by decide +kernel
theorem d7_40 : decode prog_56_method_2_code 40 = .ok (.putfield 33, 3) := by decide +kernel
theorem d7_43 : decode prog_56_method_2_code 43 = .ok (.return_, 1) := by decide +kernel
theorem pn_3 : plainName "com/example/cranfield/cranfield/model/Document" = true := by first | (simp [plainName, overriddenIn]; done) | decide +kernel
theorem ef_rmC (m : MethodId) (x0 : Addr) (x1 : Addr) (x2 : Addr) (x3 : Addr) : entryFrame m #[(.ref x0), (.ref x1), (.ref x2), (.ref x3)] 4 = mkF m 0 #[.val (.ref x0), .val (.ref x1), .val (.ref x2), .val (.ref x3)] [] := by first | (simp [entryFrame, mkF, argsToLocals, Value.category]; done) | rfl
def QrmC (Z : State) (a1 : Addr) (a2 : Addr) (a3 : Addr) (a4 : Addr) (h0 : Heap) (n0 : Nat) (v : Option Value) (h : Heap) (L : List Loc) : Prop := v = none ∧ Fr n0 L ∧ Keep h0 h [a1] ∧ Exa Z h a1 "com/example/cranfield/cranfield/model/Document" ∧ Fld Z h a1 "com/example/cranfield/cranfield/model/Document" "docno" "Ljava/lang/String;" (.ref a2) ∧ Fld Z h a1 "com/example/cranfield/cranfield/model/Document" "title" "Ljava/lang/String;" (.ref a3) ∧ Fld Z h a1 "com/example/cranfield/cranfield/model/Document" "text" "Ljava/lang/String;" (.ref a4)
set_option maxRecDepth 65536 in
set_option maxHeartbeats 40000000 in
theorem rmC (l : Launch) (Z : State) (a0 : Array Value) (hw : ∀ d ∈ tables_1, d.before a0 Z = true) (ws : List Jvm.Cond) (a1 : Addr) (a2 : Addr) (a3 : Addr) (a4 : Addr) (h0 : Heap) (n0 : Nat) (Z0 : n0 ≤ h0.size) (E_o : Exa Z h0 a1 "com/example/cranfield/cranfield/model/Document") (F_0 : Fld Z h0 a1 "com/example/cranfield/cranfield/model/Document" "docno" "Ljava/lang/String;" .null) (F_1 : Fld Z h0 a1 "com/example/cranfield/cranfield/model/Document" "title" "Ljava/lang/String;" .null) (F_2 : Fld Z h0 a1 "com/example/cranfield/cranfield/model/Document" "text" "Ljava/lang/String;" .null) (g_a1 : n0 ≤ a1) (E_2 : Exa Z h0 a2 "java/lang/String") (E_3 : Exa Z h0 a3 "java/lang/String") (E_4 : Exa Z h0 a4 "java/lang/String") :
    MetFree l (⟨"com/example/cranfield/cranfield/model/Document", "<init>", "(Ljava/lang/String;Ljava/lang/String;Ljava/lang/String;)V"⟩ : MethodName) (head1 (Jvm.Cond.code (⟨"com/example/cranfield/cranfield/model/Document", "<init>", "(Ljava/lang/String;Ljava/lang/String;Ljava/lang/String;)V"⟩ : MethodName) prog_56_method_2_code 4 none :: ws) ({ frames := 1, cells := 6, slots := 68, locals := 14 } : Room)) (fun a U => a = #[(.ref a1), (.ref a2), (.ref a3), (.ref a4)] ∧ Z.Warmed39 U.vm ∧ U.heap = h0 ∧ CHv Z own_EL U.vm h0) (fun _ _ _ _ _ => True) (fun _ U o U' => ∃ v L, o = .returned v ∧ QrmC Z a1 a2 a3 a4 h0 n0 v U'.heap L ∧ CHr Z own_EL U.vm U.heap U'.vm U'.heap ∧ ReturnedEndW U o U' L ({ frames := 1, cells := 6, slots := 68, locals := 14 } : Room).cells ({ frames := 1, cells := 6, slots := 68, locals := 14 } : Room).slots) := by
  refine MetFree.of_bodySF (plainFor_of_name pn_3) hisR ?_
  intro p e s m args below meth c s₁ Bd hml0 hP hK
  obtain ⟨rfl, hZ, hh, hH⟩ := hP
  have hx := Bd.exec
  have hby := Bd.bytes
  have hml : c.maxLocals = 4 := hml0
  have hown : s.vm.findClass "com/example/cranfield/cranfield/model/Document" = some m.cls := findClass_of_methodNamed Bd.named
  have hnm := (name_of_methodNamed Bd.named Bd.method).1
  have X0 : Stand p l e ({ frames := 1, cells := 6, slots := 68, locals := 14 } : Room) s m #[(.ref a1), (.ref a2), (.ref a3), (.ref a4)] below meth c s₁ [] 0 0 := Stand.of_body Bd
  have e0 : s₁.heap = h0 := by rw [← hh, Bd.state]; rfl
  have N0 := Fr.nil n0
  have pre0 : ∀ t_, Steps p.tables e below (s₁.setTop (mkF m 0 #[.val (.ref a1), .val (.ref a2), .val (.ref a3), .val (.ref a4)] [])) t_ → Steps p.tables e below (s₁.setTop (entryFrame m #[(.ref a1), (.ref a2), (.ref a3), (.ref a4)] 4)) t_ := fun t_ k_ => castTop (ef_rmC m a1 a2 a3 a4) k_
  obtain ⟨T101, X101, e101, st101⟩ := initO X0 hx hZ hown (hw _ (List.mem_of_getElem? (i := 38) rfl)) (hw _ (List.mem_of_getElem? (i := 25) rfl)) (hw _ (List.mem_of_getElem? (i := 26) rfl)) e0 (g := (mkF m 1 #[.val (.ref a1), .val (.ref a2), .val (.ref a3), .val (.ref a4)] [(.ref a1)])) rfl (by rw [hml]; rfl) rfl (hb hby d7_1) (by decide) (W := 0) (by show 2 * 0 + _ ≤ _; exact Nat.le_of_eq rfl) (by decide)
  obtain ⟨lt0, T102, h102, k1_102, X102, e102, Ext102, hS102, hk102, hZ102, hown102, hC102, -, st102⟩ := Jvm.RoadKit.ldcOH (s := s) (vm0 := s.vm) X101 hx hZ hown (hw _ (List.mem_of_getElem? (i := 39) rfl)) (own_wS hw) e101 ((State.WarmedH.refl s).since 0) (Nat.zero_le _) (own_EW hw) (CHr.refl hH).1 (g := (mkF m 6 #[.val (.ref a1), .val (.ref a2), .val (.ref a3), .val (.ref a4)] [(.ref a2), (.ref a1)])) rfl (hb hby d7_6) (n := 20) (by first | decide | decide +kernel | simp) (by decide) (by decide) (by decide)
  have E_103 := E_o.ext Ext102
  have K_104 := (Keep.refl h0 [a1]).ext Ext102
  have F0_105 := F_0.ext Ext102
  have E2_106 := E_2.ext Ext102
  have F1_107 := F_1.ext Ext102
  have E3_108 := E_3.ext Ext102
  have F2_109 := F_2.ext Ext102
  have E4_110 := E_4.ext Ext102
  have Z111 : n0 ≤ h102.size := Nat.le_trans Z0 (Ext102.1)
  have ch112 := (CHr.refl hH).trans hC102
  obtain ⟨_, _, ⟨T113, L113, k113, n113⟩, -, X113, ⟨Lc113, hQ113, l113, y113, z113⟩, st113⟩ := Jvm.LawKit.callS X102 hx (y := (⟨"java/util/Objects", "requireNonNull", "(Ljava/lang/Object;Ljava/lang/String;)Ljava/lang/Object;"⟩ : MethodName)) hown102 (mvT hZ102 (hw _ (List.mem_of_getElem? (i := 40) rfl))) (mvT hZ102 (hw _ (List.mem_of_getElem? (i := 41) rfl))) (mvT hZ102 (hw _ (List.mem_of_getElem? (i := 42) rfl))) (mvT hZ102 (hw _ (List.mem_of_getElem? (i := 43) rfl))) (by decide) (backOf (W := 1) (rmQ l Z a0 hw [] a2 lt0 h102 n0 Z111 ) hZ102 (hw _ (List.mem_of_getElem? (i := 43) rfl)) (hw _ (List.mem_of_getElem? (i := 42) rfl)) (by decide) (by decide)) (g := (mkF m 8 #[.val (.ref a1), .val (.ref a2), .val (.ref a3), .val (.ref a4)] [(.ref lt0), (.ref a2), (.ref a1)])) rfl (by rw [hml]; rfl) (argsL := [(.ref a2), (.ref lt0)]) (rest := [(.ref a1)]) (lenOf pd_4 rfl) rfl (by show 2 * 0 + _ ≤ _; exact Nat.le_of_eq rfl) (hb hby d7_8) (fun _ _ => ⟨rfl, e102, (by decide : 2 + 0 ≤ _), (by decide : 24 + 0 ≤ _)⟩)
  dsimp only [Pt.U, Pt.locs, Pt.cells, Pt.slots] at X113 l113 y113 z113 st113 hQ113
  subst l113 y113 z113
  obtain ⟨rfl, N113q, e113⟩ := hQ113
  have N113 := Fr.app N0 N113q
  obtain ⟨T114, X114, e114, st114⟩ := castY X113 hx hZ102 hown102 (hw _ (List.mem_of_getElem? (i := 44) rfl)) e113 (Ins.self E2_106) (g := (mkF m 11 #[.val (.ref a1), .val (.ref a2), .val (.ref a3), .val (.ref a4)] [(.ref a2), (.ref a1)])) rfl rfl (hb hby d7_11)
  obtain ⟨T115, h115, X115, e115, W115, st115⟩ := putF X114 hx hZ102 hown102 (host := "") (Or.inl (hw _ (List.mem_of_getElem? (i := 45) rfl))) Via.refl e114 F0_105 E_103 (Or.inr ⟨(hw _ (List.mem_of_getElem? (i := 46) rfl)), rfl, hnm⟩) (hw _ (List.mem_of_getElem? (i := 1) rfl)) (ty := (.object "java/lang/String")) (by decide) rfl rfl (g := (mkF m 14 #[.val (.ref a1), .val (.ref a2), .val (.ref a3), .val (.ref a4)] [(.ref a2), (.ref a1)])) rfl rfl (hb hby d7_14)
  have ch116 := ch112.trans (CHr.wr W115 (Safe.exa hZ102.alike E_103 (by decide) (by decide)) ch112.1)
  have F1_117 := F1_107.other W115 (Or.inr (slot_ne (Or.inr (hw _ (List.mem_of_getElem? (i := 49) rfl))) (Or.inr (hw _ (List.mem_of_getElem? (i := 46) rfl))) (by decide) (t := (.object "java/lang/String")) (t' := (.object "java/lang/String")) (by decide) (by decide)))
  have F2_118 := F2_109.other W115 (Or.inr (slot_ne (Or.inr (hw _ (List.mem_of_getElem? (i := 52) rfl))) (Or.inr (hw _ (List.mem_of_getElem? (i := 46) rfl))) (by decide) (t := (.object "java/lang/String")) (t' := (.object "java/lang/String")) (by decide) (by decide)))
  have E_119 := E_103.wr W115
  have K_120 := K_104.wr W115 (Or.inl (List.mem_of_getElem? (i := 0) rfl))
  have E2_121 := E2_106.wr W115
  have E3_122 := E3_108.wr W115
  have E4_123 := E4_110.wr W115
  have F0_124 := F0_105.same W115
  have N115 := Fr.snoc X115 N113 g_a1
  have Z125 : n0 ≤ h115.size := Nat.le_trans Z111 ((Keep.of_wr W115).1)
  have hk126 := Nat.le_trans hk102 ((Keep.of_wr W115).1)
  obtain ⟨lt1, T127, h127, k1_127, X127, e127, Ext127, hS127, hk127, hZ127, hown127, hC127, -, st127⟩ := Jvm.RoadKit.ldcOH (s := s) (vm0 := T102.vm) X115 hx hZ102 hown102 (hw _ (List.mem_of_getElem? (i := 47) rfl)) (own_wS hw) e115 hS102 hk126 (own_EW hw) ch116.1 (g := (mkF m 19 #[.val (.ref a1), .val (.ref a2), .val (.ref a3), .val (.ref a4)] [(.ref a3), (.ref a1)])) rfl (hb hby d7_19) (n := 20) (by first | decide | decide +kernel | simp) (by decide) (by decide) (by decide)
  have E_128 := E_119.ext Ext127
  have K_129 := K_120.ext Ext127
  have F0_130 := F0_124.ext Ext127
  have E2_131 := E2_121.ext Ext127
  have F1_132 := F1_117.ext Ext127
  have E3_133 := E3_122.ext Ext127
  have F2_134 := F2_118.ext Ext127
  have E4_135 := E4_123.ext Ext127
  have Z136 : n0 ≤ h127.size := Nat.le_trans Z125 (Ext127.1)
  have ch137 := ch116.trans hC127
  obtain ⟨_, _, ⟨T138, L138, k138, n138⟩, -, X138, ⟨Lc138, hQ138, l138, y138, z138⟩, st138⟩ := Jvm.LawKit.callS X127 hx (y := (⟨"java/util/Objects", "requireNonNull", "(Ljava/lang/Object;Ljava/lang/String;)Ljava/lang/Object;"⟩ : MethodName)) hown127 (mvT hZ127 (hw _ (List.mem_of_getElem? (i := 40) rfl))) (mvT hZ127 (hw _ (List.mem_of_getElem? (i := 41) rfl))) (mvT hZ127 (hw _ (List.mem_of_getElem? (i := 42) rfl))) (mvT hZ127 (hw _ (List.mem_of_getElem? (i := 43) rfl))) (by decide) (backOf (W := 1) (rmQ l Z a0 hw [] a3 lt1 h127 n0 Z136 ) hZ127 (hw _ (List.mem_of_getElem? (i := 43) rfl)) (hw _ (List.mem_of_getElem? (i := 42) rfl)) (by decide) (by decide)) (g := (mkF m 21 #[.val (.ref a1), .val (.ref a2), .val (.ref a3), .val (.ref a4)] [(.ref lt1), (.ref a3), (.ref a1)])) rfl (by rw [hml]; rfl) (argsL := [(.ref a3), (.ref lt1)]) (rest := [(.ref a1)]) (lenOf pd_4 rfl) rfl (by show 2 * 0 + _ ≤ _; exact Nat.le_of_eq rfl) (hb hby d7_21) (fun _ _ => ⟨rfl, e127, (by decide : 4 + 0 ≤ _), (by decide : 48 + 0 ≤ _)⟩)
  dsimp only [Pt.U, Pt.locs, Pt.cells, Pt.slots] at X138 l138 y138 z138 st138 hQ138
  subst l138 y138 z138
  obtain ⟨rfl, N138q, e138⟩ := hQ138
  have N138 := Fr.app N115 N138q
  obtain ⟨T139, X139, e139, st139⟩ := castY X138 hx hZ127 hown127 (hw _ (List.mem_of_getElem? (i := 44) rfl)) e138 (Ins.self E3_133) (g := (mkF m 24 #[.val (.ref a1), .val (.ref a2), .val (.ref a3), .val (.ref a4)] [(.ref a3), (.ref a1)])) rfl rfl (hb hby d7_24)
  obtain ⟨T140, h140, X140, e140, W140, st140⟩ := putF X139 hx hZ127 hown127 (host := "") (Or.inl (hw _ (List.mem_of_getElem? (i := 48) rfl))) Via.refl e139 F1_132 E_128 (Or.inr ⟨(hw _ (List.mem_of_getElem? (i := 49) rfl)), rfl, hnm⟩) (hw _ (List.mem_of_getElem? (i := 1) rfl)) (ty := (.object "java/lang/String")) (by decide) rfl rfl (g := (mkF m 27 #[.val (.ref a1), .val (.ref a2), .val (.ref a3), .val (.ref a4)] [(.ref a3), (.ref a1)])) rfl rfl (hb hby d7_27)
  have ch141 := ch137.trans (CHr.wr W140 (Safe.exa hZ127.alike E_128 (by decide) (by decide)) ch137.1)
  have F0_142 := F0_130.other W140 (Or.inr (slot_ne (Or.inr (hw _ (List.mem_of_getElem? (i := 46) rfl))) (Or.inr (hw _ (List.mem_of_getElem? (i := 49) rfl))) (by decide) (t := (.object "java/lang/String")) (t' := (.object "java/lang/String")) (by decide) (by decide)))
  have F2_143 := F2_134.other W140 (Or.inr (slot_ne (Or.inr (hw _ (List.mem_of_getElem? (i := 52) rfl))) (Or.inr (hw _ (List.mem_of_getElem? (i := 49) rfl))) (by decide) (t := (.object "java/lang/String")) (t' := (.object "java/lang/String")) (by decide) (by decide)))
  have E_144 := E_128.wr W140
  have K_145 := K_129.wr W140 (Or.inl (List.mem_of_getElem? (i := 0) rfl))
  have E2_146 := E2_131.wr W140
  have E3_147 := E3_133.wr W140
  have E4_148 := E4_135.wr W140
  have F1_149 := F1_132.same W140
  have N140 := Fr.snoc X140 N138 g_a1
  have Z150 : n0 ≤ h140.size := Nat.le_trans Z136 ((Keep.of_wr W140).1)
  have hk151 := Nat.le_trans hk127 ((Keep.of_wr W140).1)
  obtain ⟨lt2, T152, h152, k1_152, X152, e152, Ext152, hS152, hk152, hZ152, hown152, hC152, -, st152⟩ := Jvm.RoadKit.ldcOH (s := s) (vm0 := T127.vm) X140 hx hZ127 hown127 (hw _ (List.mem_of_getElem? (i := 50) rfl)) (own_wS hw) e140 hS127 hk151 (own_EW hw) ch141.1 (g := (mkF m 32 #[.val (.ref a1), .val (.ref a2), .val (.ref a3), .val (.ref a4)] [(.ref a4), (.ref a1)])) rfl (hb hby d7_32) (n := 16) (by first | decide | decide +kernel | simp) (by decide) (by decide) (by decide)
  have E_153 := E_144.ext Ext152
  have K_154 := K_145.ext Ext152
  have F0_155 := F0_142.ext Ext152
  have E2_156 := E2_146.ext Ext152
  have F1_157 := F1_149.ext Ext152
  have E3_158 := E3_147.ext Ext152
  have F2_159 := F2_143.ext Ext152
  have E4_160 := E4_148.ext Ext152
  have Z161 : n0 ≤ h152.size := Nat.le_trans Z150 (Ext152.1)
  have ch162 := ch141.trans hC152
  obtain ⟨_, _, ⟨T163, L163, k163, n163⟩, -, X163, ⟨Lc163, hQ163, l163, y163, z163⟩, st163⟩ := Jvm.LawKit.callS X152 hx (y := (⟨"java/util/Objects", "requireNonNull", "(Ljava/lang/Object;Ljava/lang/String;)Ljava/lang/Object;"⟩ : MethodName)) hown152 (mvT hZ152 (hw _ (List.mem_of_getElem? (i := 40) rfl))) (mvT hZ152 (hw _ (List.mem_of_getElem? (i := 41) rfl))) (mvT hZ152 (hw _ (List.mem_of_getElem? (i := 42) rfl))) (mvT hZ152 (hw _ (List.mem_of_getElem? (i := 43) rfl))) (by decide) (backOf (W := 1) (rmQ l Z a0 hw [] a4 lt2 h152 n0 Z161 ) hZ152 (hw _ (List.mem_of_getElem? (i := 43) rfl)) (hw _ (List.mem_of_getElem? (i := 42) rfl)) (by decide) (by decide)) (g := (mkF m 34 #[.val (.ref a1), .val (.ref a2), .val (.ref a3), .val (.ref a4)] [(.ref lt2), (.ref a4), (.ref a1)])) rfl (by rw [hml]; rfl) (argsL := [(.ref a4), (.ref lt2)]) (rest := [(.ref a1)]) (lenOf pd_4 rfl) rfl (by show 2 * 0 + _ ≤ _; exact Nat.le_of_eq rfl) (hb hby d7_34) (fun _ _ => ⟨rfl, e152, (by decide : 6 + 0 ≤ _), (by decide : 68 + 0 ≤ _)⟩)
  dsimp only [Pt.U, Pt.locs, Pt.cells, Pt.slots] at X163 l163 y163 z163 st163 hQ163
  subst l163 y163 z163
  obtain ⟨rfl, N163q, e163⟩ := hQ163
  have N163 := Fr.app N140 N163q
  obtain ⟨T164, X164, e164, st164⟩ := castY X163 hx hZ152 hown152 (hw _ (List.mem_of_getElem? (i := 44) rfl)) e163 (Ins.self E4_160) (g := (mkF m 37 #[.val (.ref a1), .val (.ref a2), .val (.ref a3), .val (.ref a4)] [(.ref a4), (.ref a1)])) rfl rfl (hb hby d7_37)
  obtain ⟨T165, h165, X165, e165, W165, st165⟩ := putF X164 hx hZ152 hown152 (host := "") (Or.inl (hw _ (List.mem_of_getElem? (i := 51) rfl))) Via.refl e164 F2_159 E_153 (Or.inr ⟨(hw _ (List.mem_of_getElem? (i := 52) rfl)), rfl, hnm⟩) (hw _ (List.mem_of_getElem? (i := 1) rfl)) (ty := (.object "java/lang/String")) (by decide) rfl rfl (g := (mkF m 40 #[.val (.ref a1), .val (.ref a2), .val (.ref a3), .val (.ref a4)] [(.ref a4), (.ref a1)])) rfl rfl (hb hby d7_40)
  have ch166 := ch162.trans (CHr.wr W165 (Safe.exa hZ152.alike E_153 (by decide) (by decide)) ch162.1)
  have F0_167 := F0_155.other W165 (Or.inr (slot_ne (Or.inr (hw _ (List.mem_of_getElem? (i := 46) rfl))) (Or.inr (hw _ (List.mem_of_getElem? (i := 52) rfl))) (by decide) (t := (.object "java/lang/String")) (t' := (.object "java/lang/String")) (by decide) (by decide)))
  have F1_168 := F1_157.other W165 (Or.inr (slot_ne (Or.inr (hw _ (List.mem_of_getElem? (i := 49) rfl))) (Or.inr (hw _ (List.mem_of_getElem? (i := 52) rfl))) (by decide) (t := (.object "java/lang/String")) (t' := (.object "java/lang/String")) (by decide) (by decide)))
  have E_169 := E_153.wr W165
  have K_170 := K_154.wr W165 (Or.inl (List.mem_of_getElem? (i := 0) rfl))
  have E2_171 := E2_156.wr W165
  have E3_172 := E3_158.wr W165
  have E4_173 := E4_160.wr W165
  have F2_174 := F2_159.same W165
  have N165 := Fr.snoc X165 N163 g_a1
  have Z175 : n0 ≤ h165.size := Nat.le_trans Z161 ((Keep.of_wr W165).1)
  have hk176 := Nat.le_trans hk152 ((Keep.of_wr W165).1)
  have pre177 : ∀ t_, Steps p.tables e below (T165.setTop (mkF m 43 #[.val (.ref a1), .val (.ref a2), .val (.ref a3), .val (.ref a4)] [])) t_ → Steps p.tables e below (s₁.setTop (entryFrame m #[(.ref a1), (.ref a2), (.ref a3), (.ref a4)] 4)) t_ := fun t_ k_ => pre0 _ (by
    show Steps p.tables e below (s₁.setTop (mkF m 0 #[.val (.ref a1), .val (.ref a2), .val (.ref a3), .val (.ref a4)] [])) _
    refine XS.aloadN X0.here hx rfl (hb hby d7_0) rfl rfl ?_
    show Steps p.tables e below (s₁.setTop (mkF m 1 #[.val (.ref a1), .val (.ref a2), .val (.ref a3), .val (.ref a4)] [(.ref a1)])) _
    refine st101 _ ?_
    show Steps p.tables e below (T101.setTop (mkF m 4 #[.val (.ref a1), .val (.ref a2), .val (.ref a3), .val (.ref a4)] [])) _
    refine XS.aloadN X101.here hx rfl (hb hby d7_4) rfl rfl ?_
    show Steps p.tables e below (T101.setTop (mkF m 5 #[.val (.ref a1), .val (.ref a2), .val (.ref a3), .val (.ref a4)] [(.ref a1)])) _
    refine XS.aloadN X101.here hx rfl (hb hby d7_5) rfl rfl ?_
    show Steps p.tables e below (T101.setTop (mkF m 6 #[.val (.ref a1), .val (.ref a2), .val (.ref a3), .val (.ref a4)] [(.ref a2), (.ref a1)])) _
    refine st102 _ ?_
    show Steps p.tables e below (T102.setTop (mkF m 8 #[.val (.ref a1), .val (.ref a2), .val (.ref a3), .val (.ref a4)] [(.ref lt0), (.ref a2), (.ref a1)])) _
    refine st113 _ ?_
    show Steps p.tables e below (T113.setTop (mkF m 11 #[.val (.ref a1), .val (.ref a2), .val (.ref a3), .val (.ref a4)] [(.ref a2), (.ref a1)])) _
    refine st114 _ ?_
    show Steps p.tables e below (T114.setTop (mkF m 14 #[.val (.ref a1), .val (.ref a2), .val (.ref a3), .val (.ref a4)] [(.ref a2), (.ref a1)])) _
    refine st115 _ ?_
    show Steps p.tables e below (T115.setTop (mkF m 17 #[.val (.ref a1), .val (.ref a2), .val (.ref a3), .val (.ref a4)] [])) _
    refine XS.aloadN X115.here hx rfl (hb hby d7_17) rfl rfl ?_
    show Steps p.tables e below (T115.setTop (mkF m 18 #[.val (.ref a1), .val (.ref a2), .val (.ref a3), .val (.ref a4)] [(.ref a1)])) _
    refine XS.aloadN X115.here hx rfl (hb hby d7_18) rfl rfl ?_
    show Steps p.tables e below (T115.setTop (mkF m 19 #[.val (.ref a1), .val (.ref a2), .val (.ref a3), .val (.ref a4)] [(.ref a3), (.ref a1)])) _
    refine st127 _ ?_
    show Steps p.tables e below (T127.setTop (mkF m 21 #[.val (.ref a1), .val (.ref a2), .val (.ref a3), .val (.ref a4)] [(.ref lt1), (.ref a3), (.ref a1)])) _
    refine st138 _ ?_
    show Steps p.tables e below (T138.setTop (mkF m 24 #[.val (.ref a1), .val (.ref a2), .val (.ref a3), .val (.ref a4)] [(.ref a3), (.ref a1)])) _
    refine st139 _ ?_
    show Steps p.tables e below (T139.setTop (mkF m 27 #[.val (.ref a1), .val (.ref a2), .val (.ref a3), .val (.ref a4)] [(.ref a3), (.ref a1)])) _
    refine st140 _ ?_
    show Steps p.tables e below (T140.setTop (mkF m 30 #[.val (.ref a1), .val (.ref a2), .val (.ref a3), .val (.ref a4)] [])) _
    refine XS.aloadN X140.here hx rfl (hb hby d7_30) rfl rfl ?_
    show Steps p.tables e below (T140.setTop (mkF m 31 #[.val (.ref a1), .val (.ref a2), .val (.ref a3), .val (.ref a4)] [(.ref a1)])) _
    refine XS.aloadN X140.here hx rfl (hb hby d7_31) rfl rfl ?_
    show Steps p.tables e below (T140.setTop (mkF m 32 #[.val (.ref a1), .val (.ref a2), .val (.ref a3), .val (.ref a4)] [(.ref a4), (.ref a1)])) _
    refine st152 _ ?_
    show Steps p.tables e below (T152.setTop (mkF m 34 #[.val (.ref a1), .val (.ref a2), .val (.ref a3), .val (.ref a4)] [(.ref lt2), (.ref a4), (.ref a1)])) _
    refine st163 _ ?_
    show Steps p.tables e below (T163.setTop (mkF m 37 #[.val (.ref a1), .val (.ref a2), .val (.ref a3), .val (.ref a4)] [(.ref a4), (.ref a1)])) _
    refine st164 _ ?_
    show Steps p.tables e below (T164.setTop (mkF m 40 #[.val (.ref a1), .val (.ref a2), .val (.ref a3), .val (.ref a4)] [(.ref a4), (.ref a1)])) _
    refine st165 _ ?_
    exact k_)
  obtain ⟨fs, hr, hrun, hended, hWr, hW1, hW2, hsame⟩ := Jvm.Stand.leaveW (s := s) X165 hS152 (by rw [e165]; exact hk176) (v := none) (fun _ => rfl)
  refine ⟨_, _, pre177 _ ?_, hrun, hended, _, _, rfl, ?_, (by show CHr Z own_EL s.vm s.heap T165.vm T165.heap; rw [hh, e165]; exact ch166.trans (CHv.at (s := s) (vm0 := T152.vm) X165 hZ152 (own_EW hw) ch166.1)), hWr, hW1, hW2, hsame.mono (by decide) (by decide)⟩
  · show Steps p.tables e below (T165.setTop (mkF m 43 #[.val (.ref a1), .val (.ref a2), .val (.ref a3), .val (.ref a4)] [])) _
    exact X165.returnOut hx Bd.returns (hb hby d7_43) hr
  · show QrmC Z a1 a2 a3 a4 h0 n0 _ T165.heap _
    rw [e165]
    exact ⟨rfl, N165, K_170, E_169, F0_167, F1_168, F2_174⟩
theorem d10_0 : decode prog_56_method_6_code 0 = .ok (.aload_n 1, 1) := by decide +kernel
theorem d10_1 : decode prog_56_method_6_code 1 = .ok (.instanceof 4, 3) := by decide +kernel
theorem d10_4 : decode prog_56_method_6_code 4 = .ok (.ifCond .ne 5, 3) := by decide +kernel
theorem d10_7 : decode prog_56_method_6_code 7 = .ok (.iconst 0, 1) := by decide +kernel
theorem d10_8 : decode prog_56_method_6_code 8 = .ok (.ireturn, 1) := by decide +kernel
theorem ef_rmE0 (m : MethodId) (x0 : Addr) : entryFrame m #[(.ref x0), .null] 3 = mkF m 0 #[.val (.ref x0), .val .null, .unset] [] := by first | (simp [entryFrame, mkF, argsToLocals, Value.category]; done) | rfl
def QrmE0 (Z : State) (a1 : Addr) (h0 : Heap) (n0 : Nat) (v : Option Value) (h : Heap) (L : List Loc) : Prop := v = some (.int 0) ∧ Fr n0 L ∧ h = h0
set_option maxRecDepth 65536 in
set_option maxHeartbeats 40000000 in
theorem rmE0 (l : Launch) (Z : State) (a0 : Array Value) (hw : ∀ d ∈ tables_1, d.before a0 Z = true) (ws : List Jvm.Cond) (a1 : Addr) (h0 : Heap) (n0 : Nat) (Z0 : n0 ≤ h0.size) :
    MetFree l (⟨"com/example/cranfield/cranfield/model/Document", "equals", "(Ljava/lang/Object;)Z"⟩ : MethodName) (head1 (Jvm.Cond.code (⟨"com/example/cranfield/cranfield/model/Document", "equals", "(Ljava/lang/Object;)Z"⟩ : MethodName) prog_56_method_6_code 3 (some .boolean) :: ws) ({ frames := 0, cells := 0, slots := 0, locals := 0 } : Room)) (fun a U => a = #[(.ref a1), .null] ∧ Z.Warmed39 U.vm ∧ U.heap = h0) (fun _ _ _ _ _ => True) (fun _ U o U' => ∃ v L, o = .returned v ∧ QrmE0 Z a1 h0 n0 v U'.heap L ∧ FrameEnd U o U' L ({ frames := 0, cells := 0, slots := 0, locals := 0 } : Room).cells ({ frames := 0, cells := 0, slots := 0, locals := 0 } : Room).slots) := by
  refine MetFree.of_bodySF (plainFor_of_name pn_3) hisR ?_
  intro p e s m args below meth c s₁ Bd hml0 hP hK
  obtain ⟨rfl, hZ, hh⟩ := hP
  have hx := Bd.exec
  have hby := Bd.bytes
  have hml : c.maxLocals = 3 := hml0
  have hown : s.vm.findClass "com/example/cranfield/cranfield/model/Document" = some m.cls := findClass_of_methodNamed Bd.named
  have hnm := (name_of_methodNamed Bd.named Bd.method).1
  have X0 : Stand p l e ({ frames := 0, cells := 0, slots := 0, locals := 0 } : Room) s m #[(.ref a1), .null] below meth c s₁ [] 0 0 := Stand.of_body Bd
  have e0 : s₁.heap = h0 := by rw [← hh, Bd.state]; rfl
  have N0 := Fr.nil n0
  have pre0 : ∀ t_, Steps p.tables e below (s₁.setTop (mkF m 0 #[.val (.ref a1), .val .null, .unset] [])) t_ → Steps p.tables e below (s₁.setTop (entryFrame m #[(.ref a1), .null] 3)) t_ := fun t_ k_ => castTop (ef_rmE0 m a1) k_
  have pre101 : ∀ t_, Steps p.tables e below (s₁.setTop (mkF m 8 #[.val (.ref a1), .val .null, .unset] [(.int (0 : Int32))])) t_ → Steps p.tables e below (s₁.setTop (entryFrame m #[(.ref a1), .null] 3)) t_ := fun t_ k_ => pre0 _ (by
    show Steps p.tables e below (s₁.setTop (mkF m 0 #[.val (.ref a1), .val .null, .unset] [])) _
    refine XS.aloadN X0.here hx rfl (hb hby d10_0) rfl rfl ?_
    show Steps p.tables e below (s₁.setTop (mkF m 1 #[.val (.ref a1), .val .null, .unset] [.null])) _
    refine X0.instanceofNull hx (g := (mkF m 1 #[.val (.ref a1), .val .null, .unset] [.null])) rfl rfl (hb hby d10_1) _ ?_
    show Steps p.tables e below (s₁.setTop (mkF m 4 #[.val (.ref a1), .val .null, .unset] [(.int (0 : Int32))])) _
    refine XS.ifNo X0.here hx rfl (hb hby d10_4) rfl ((if0 _ _).trans (teq (rfl : (0 : Int32) = 0)).2) ?_
    show Steps p.tables e below (s₁.setTop (mkF m 7 #[.val (.ref a1), .val .null, .unset] [])) _
    refine XS.iconst X0.here hx rfl (hb hby d10_7) ?_
    exact k_)
  obtain ⟨fs, hr, hrun, hended, hW, hsame⟩ := X0.leave (v := some (.int (0 : Int32))) (fun h => by rw [Bd.returns] at h; cases h)
  refine ⟨_, _, pre101 _ ?_, hrun, hended, _, _, rfl, ?_, ⟨_, rfl⟩, hW, hsame.mono (by decide) (by decide)⟩
  · show Steps p.tables e below (s₁.setTop (mkF m 8 #[.val (.ref a1), .val .null, .unset] [(.int (0 : Int32))])) _
    exact retN X0 hx (t := .boolean) Bd.returns (by simp) (hb hby d10_8) hr
  · show QrmE0 Z a1 h0 n0 _ s₁.heap _
    rw [e0]
    exact ⟨rfl, N0, rfl⟩
theorem ef_rmE1 (m : MethodId) (x0 : Addr) (x1 : Addr) : entryFrame m #[(.ref x0), (.ref x1)] 3 = mkF m 0 #[.val (.ref x0), .val (.ref x1), .unset] [] := by first | (simp [entryFrame, mkF, argsToLocals, Value.category]; done) | rfl
def QrmE1 (Z : State) (a1 : Addr) (a2 : Addr) (h0 : Heap) (n0 : Nat) (v : Option Value) (h : Heap) (L : List Loc) : Prop := v = some (.int 0) ∧ Fr n0 L ∧ h = h0
set_option maxRecDepth 65536 in
set_option maxHeartbeats 40000000 in
theorem rmE1 (l : Launch) (Z : State) (a0 : Array Value) (hw : ∀ d ∈ tables_1, d.before a0 Z = true) (ws : List Jvm.Cond) (a1 : Addr) (a2 : Addr) (h0 : Heap) (n0 : Nat) (Z0 : n0 ≤ h0.size) (E_i : Exa Z h0 a2 "java/lang/String") :
    MetFree l (⟨"com/example/cranfield/cranfield/model/Document", "equals", "(Ljava/lang/Object;)Z"⟩ : MethodName) (head1 (Jvm.Cond.code (⟨"com/example/cranfield/cranfield/model/Document", "equals", "(Ljava/lang/Object;)Z"⟩ : MethodName) prog_56_method_6_code 3 (some .boolean) :: ws) ({ frames := 0, cells := 0, slots := 0, locals := 0 } : Room)) (fun a U => a = #[(.ref a1), (.ref a2)] ∧ Z.Warmed39 U.vm ∧ U.heap = h0) (fun _ _ _ _ _ => True) (fun _ U o U' => ∃ v L, o = .returned v ∧ QrmE1 Z a1 a2 h0 n0 v U'.heap L ∧ FrameEnd U o U' L ({ frames := 0, cells := 0, slots := 0, locals := 0 } : Room).cells ({ frames := 0, cells := 0, slots := 0, locals := 0 } : Room).slots) := by
  refine MetFree.of_bodySF (plainFor_of_name pn_3) hisR ?_
  intro p e s m args below meth c s₁ Bd hml0 hP hK
  obtain ⟨rfl, hZ, hh⟩ := hP
  have hx := Bd.exec
  have hby := Bd.bytes
  have hml : c.maxLocals = 3 := hml0
  have hown : s.vm.findClass "com/example/cranfield/cranfield/model/Document" = some m.cls := findClass_of_methodNamed Bd.named
  have hnm := (name_of_methodNamed Bd.named Bd.method).1
  have X0 : Stand p l e ({ frames := 0, cells := 0, slots := 0, locals := 0 } : Room) s m #[(.ref a1), (.ref a2)] below meth c s₁ [] 0 0 := Stand.of_body Bd
  have e0 : s₁.heap = h0 := by rw [← hh, Bd.state]; rfl
  have N0 := Fr.nil n0
  have pre0 : ∀ t_, Steps p.tables e below (s₁.setTop (mkF m 0 #[.val (.ref a1), .val (.ref a2), .unset] [])) t_ → Steps p.tables e below (s₁.setTop (entryFrame m #[(.ref a1), (.ref a2)] 3)) t_ := fun t_ k_ => castTop (ef_rmE1 m a1 a2) k_
  obtain ⟨T101, X101, e101, st101⟩ := instNo X0 hx hZ hown (hw _ (List.mem_of_getElem? (i := 61) rfl)) e0 E_i (own_ns1 (hw _ (List.mem_of_getElem? (i := 84) rfl)) (hw _ (List.mem_of_getElem? (i := 85) rfl)) (hw _ (List.mem_of_getElem? (i := 1) rfl)) (by decide) (by decide)) (g := (mkF m 1 #[.val (.ref a1), .val (.ref a2), .unset] [(.ref a2)])) rfl rfl (hb hby d10_1)
  have pre102 : ∀ t_, Steps p.tables e below (T101.setTop (mkF m 8 #[.val (.ref a1), .val (.ref a2), .unset] [(.int (0 : Int32))])) t_ → Steps p.tables e below (s₁.setTop (entryFrame m #[(.ref a1), (.ref a2)] 3)) t_ := fun t_ k_ => pre0 _ (by
    show Steps p.tables e below (s₁.setTop (mkF m 0 #[.val (.ref a1), .val (.ref a2), .unset] [])) _
    refine XS.aloadN X0.here hx rfl (hb hby d10_0) rfl rfl ?_
    show Steps p.tables e below (s₁.setTop (mkF m 1 #[.val (.ref a1), .val (.ref a2), .unset] [(.ref a2)])) _
    refine st101 _ ?_
    show Steps p.tables e below (T101.setTop (mkF m 4 #[.val (.ref a1), .val (.ref a2), .unset] [(.int (0 : Int32))])) _
    refine XS.ifNo X101.here hx rfl (hb hby d10_4) rfl ((if0 _ _).trans (teq (rfl : (0 : Int32) = 0)).2) ?_
    show Steps p.tables e below (T101.setTop (mkF m 7 #[.val (.ref a1), .val (.ref a2), .unset] [])) _
    refine XS.iconst X101.here hx rfl (hb hby d10_7) ?_
    exact k_)
  obtain ⟨fs, hr, hrun, hended, hW, hsame⟩ := X101.leave (v := some (.int (0 : Int32))) (fun h => by rw [Bd.returns] at h; cases h)
  refine ⟨_, _, pre102 _ ?_, hrun, hended, _, _, rfl, ?_, ⟨_, rfl⟩, hW, hsame.mono (by decide) (by decide)⟩
  · show Steps p.tables e below (T101.setTop (mkF m 8 #[.val (.ref a1), .val (.ref a2), .unset] [(.int (0 : Int32))])) _
    exact retN X101 hx (t := .boolean) Bd.returns (by simp) (hb hby d10_8) hr
  · show QrmE1 Z a1 a2 h0 n0 _ T101.heap _
    rw [e101]
    exact ⟨rfl, N0, rfl⟩
theorem pd_5 : parseMethodDescriptor "(Ljava/lang/Object;)Z" = some ⟨[(.object "java/lang/Object")], some .boolean⟩ := by decide +kernel
theorem d10_9 : decode prog_56_method_6_code 9 = .ok (.aload_n 1, 1) := by decide +kernel
theorem d10_10 : decode prog_56_method_6_code 10 = .ok (.checkcast 4, 3) := by decide +kernel
theorem d10_13 : decode prog_56_method_6_code 13 = .ok (.astore_n 2, 1) := by decide +kernel
theorem d10_14 : decode prog_56_method_6_code 14 = .ok (.aload_n 0, 1) := by decide +kernel
theorem d10_15 : decode prog_56_method_6_code 15 = .ok (.getfield 24, 3) := by decide +kernel
theorem d10_18 : decode prog_56_method_6_code 18 = .ok (.aload_n 2, 1) := by decide +kernel
theorem d10_19 : decode prog_56_method_6_code 19 = .ok (.getfield 24, 3) := by decide +kernel
theorem d10_22 : decode prog_56_method_6_code 22 = .ok (.invokevirtual 35, 3) := by decide +kernel
theorem d10_25 : decode prog_56_method_6_code 25 = .ok (.ifCond .eq 35, 3) := by decide +kernel
theorem d10_28 : decode prog_56_method_6_code 28 = .ok (.aload_n 0, 1) := by decide +kernel
theorem d10_29 : decode prog_56_method_6_code 29 = .ok (.getfield 29, 3) := by decide +kernel
theorem d10_32 : decode prog_56_method_6_code 32 = .ok (.aload_n 2, 1) := by decide +kernel
theorem d10_33 : decode prog_56_method_6_code 33 = .ok (.getfield 29, 3) := by decide +kernel
theorem d10_36 : decode prog_56_method_6_code 36 = .ok (.invokevirtual 35, 3) := by decide +kernel
theorem d10_39 : decode prog_56_method_6_code 39 = .ok (.ifCond .eq 21, 3) := by decide +kernel
theorem d10_42 : decode prog_56_method_6_code 42 = .ok (.aload_n 0, 1) := by decide +kernel
theorem d10_43 : decode prog_56_method_6_code 43 = .ok (.getfield 33, 3) := by decide +kernel
theorem d10_46 : decode prog_56_method_6_code 46 = .ok (.aload_n 2, 1) := by decide +kernel
theorem d10_47 : decode prog_56_method_6_code 47 = .ok (.getfield 33, 3) := by decide +kernel
theorem d10_50 : decode prog_56_method_6_code 50 = .ok (.invokevirtual 35, 3) := by decide +kernel
theorem d10_53 : decode prog_56_method_6_code 53 = .ok (.ifCond .eq 7, 3) := by decide +kernel
theorem d10_56 : decode prog_56_method_6_code 56 = .ok (.iconst 1, 1) := by decide +kernel
theorem d10_57 : decode prog_56_method_6_code 57 = .ok (.goto 4, 3) := by decide +kernel
theorem d10_60 : decode prog_56_method_6_code 60 = .ok (.iconst 0, 1) := by decide +kernel
theorem d10_61 : decode prog_56_method_6_code 61 = .ok (.ireturn, 1) := by decide +kernel
theorem ef_rmE2 (m : MethodId) (x0 : Addr) (x1 : Addr) : entryFrame m #[(.ref x0), (.ref x1)] 3 = mkF m 0 #[.val (.ref x0), .val (.ref x1), .unset] [] := by first | (simp [entryFrame, mkF, argsToLocals, Value.category]; done) | rfl
def QrmE2 (Z : State) (a1 : Addr) (a2 : Addr) (n1 : Addr) (q1 : Addr) (t1 : Addr) (n2 : Addr) (q2 : Addr) (t2 : Addr) (c1 : List Int32) (d1 : List Int32) (e1 : List Int32) (c2 : List Int32) (d2 : List Int32) (e2 : List Int32) (zc : Int32) (h0 : Heap) (n0 : Nat) (v : Option Value) (h : Heap) (L : List Loc) : Prop := v = some (.int (own_deq c1 d1 e1 c2 d2 e2)) ∧ Fr n0 L ∧ h = h0
set_option maxRecDepth 65536 in
set_option maxHeartbeats 40000000 in
theorem rmE2 (l : Launch) (Z : State) (a0 : Array Value) (hw : ∀ d ∈ tables_1, d.before a0 Z = true) (ws : List Jvm.Cond) (a1 : Addr) (a2 : Addr) (n1 : Addr) (q1 : Addr) (t1 : Addr) (n2 : Addr) (q2 : Addr) (t2 : Addr) (c1 : List Int32) (d1 : List Int32) (e1 : List Int32) (c2 : List Int32) (d2 : List Int32) (e2 : List Int32) (zc : Int32) (h0 : Heap) (n0 : Nat) (Z0 : n0 ≤ h0.size) (E_i : Exa Z h0 a2 "com/example/cranfield/cranfield/model/Document") (F0 : Fld Z h0 a1 "com/example/cranfield/cranfield/model/Document" "docno" "Ljava/lang/String;" (.ref n1)) (F1 : Fld Z h0 a1 "com/example/cranfield/cranfield/model/Document" "title" "Ljava/lang/String;" (.ref q1)) (F2 : Fld Z h0 a1 "com/example/cranfield/cranfield/model/Document" "text" "Ljava/lang/String;" (.ref t1)) (G0 : Fld Z h0 a2 "com/example/cranfield/cranfield/model/Document" "docno" "Ljava/lang/String;" (.ref n2)) (G1 : Fld Z h0 a2 "com/example/cranfield/cranfield/model/Document" "title" "Ljava/lang/String;" (.ref q2)) (G2 : Fld Z h0 a2 "com/example/cranfield/cranfield/model/Document" "text" "Ljava/lang/String;" (.ref t2)) (T0 : own_Str Z h0 n1 c1) (T1 : own_Str Z h0 q1 d1) (T2 : own_Str Z h0 t1 e1) (T3 : own_Str Z h0 n2 c2) (T4 : own_Str Z h0 q2 d2) (T5 : own_Str Z h0 t2 e2) (S_c : Sta Z h0 "java/lang/String" "COMPACT_STRINGS" "Z" (.int zc)) (hzc : ¬ zc = 0) :
    MetFree l (⟨"com/example/cranfield/cranfield/model/Document", "equals", "(Ljava/lang/Object;)Z"⟩ : MethodName) (head1 (Jvm.Cond.code (⟨"com/example/cranfield/cranfield/model/Document", "equals", "(Ljava/lang/Object;)Z"⟩ : MethodName) prog_56_method_6_code 3 (some .boolean) :: ws) ({ frames := 2, cells := 0, slots := 0, locals := 28 } : Room)) (fun a U => a = #[(.ref a1), (.ref a2)] ∧ Z.Warmed39 U.vm ∧ U.heap = h0) (fun _ _ _ _ _ => True) (fun _ U o U' => ∃ v L, o = .returned v ∧ QrmE2 Z a1 a2 n1 q1 t1 n2 q2 t2 c1 d1 e1 c2 d2 e2 zc h0 n0 v U'.heap L ∧ FrameEnd U o U' L ({ frames := 2, cells := 0, slots := 0, locals := 28 } : Room).cells ({ frames := 2, cells := 0, slots := 0, locals := 28 } : Room).slots) := by
  refine MetFree.of_bodySF (plainFor_of_name pn_3) hisR ?_
  intro p e s m args below meth c s₁ Bd hml0 hP hK
  obtain ⟨rfl, hZ, hh⟩ := hP
  have hx := Bd.exec
  have hby := Bd.bytes
  have hml : c.maxLocals = 3 := hml0
  have hown : s.vm.findClass "com/example/cranfield/cranfield/model/Document" = some m.cls := findClass_of_methodNamed Bd.named
  have hnm := (name_of_methodNamed Bd.named Bd.method).1
  have X0 : Stand p l e ({ frames := 2, cells := 0, slots := 0, locals := 28 } : Room) s m #[(.ref a1), (.ref a2)] below meth c s₁ [] 0 0 := Stand.of_body Bd
  have e0 : s₁.heap = h0 := by rw [← hh, Bd.state]; rfl
  have N0 := Fr.nil n0
  have pre0 : ∀ t_, Steps p.tables e below (s₁.setTop (mkF m 0 #[.val (.ref a1), .val (.ref a2), .unset] [])) t_ → Steps p.tables e below (s₁.setTop (entryFrame m #[(.ref a1), (.ref a2)] 3)) t_ := fun t_ k_ => castTop (ef_rmE2 m a1 a2) k_
  obtain ⟨T101, X101, e101, st101⟩ := instY X0 hx hZ hown (hw _ (List.mem_of_getElem? (i := 61) rfl)) e0 (Ins.self E_i) (g := (mkF m 1 #[.val (.ref a1), .val (.ref a2), .unset] [(.ref a2)])) rfl rfl (hb hby d10_1)
  obtain ⟨T102, X102, e102, st102⟩ := castY X101 hx hZ hown (hw _ (List.mem_of_getElem? (i := 61) rfl)) e101 (Ins.self E_i) (g := (mkF m 10 #[.val (.ref a1), .val (.ref a2), .unset] [(.ref a2)])) rfl rfl (hb hby d10_10)
  obtain ⟨T103, X103, e103, st103⟩ := getF X102 hx hZ hown (host := "") (Or.inl (hw _ (List.mem_of_getElem? (i := 45) rfl))) Via.refl e102 F0 (g := (mkF m 15 #[.val (.ref a1), .val (.ref a2), .val (.ref a2)] [(.ref a1)])) rfl rfl (hb hby d10_15)
  obtain ⟨T104, X104, e104, st104⟩ := getF X103 hx hZ hown (host := "") (Or.inl (hw _ (List.mem_of_getElem? (i := 45) rfl))) Via.refl e103 G0 (g := (mkF m 19 #[.val (.ref a1), .val (.ref a2), .val (.ref a2)] [(.ref a2), (.ref n1)])) rfl rfl (hb hby d10_19)
  have pre105 : ∀ t_, Steps p.tables e below (T104.setTop (mkF m 22 #[.val (.ref a1), .val (.ref a2), .val (.ref a2)] [(.ref n2), (.ref n1)])) t_ → Steps p.tables e below (s₁.setTop (entryFrame m #[(.ref a1), (.ref a2)] 3)) t_ := fun t_ k_ => pre0 _ (by
    show Steps p.tables e below (s₁.setTop (mkF m 0 #[.val (.ref a1), .val (.ref a2), .unset] [])) _
    refine XS.aloadN X0.here hx rfl (hb hby d10_0) rfl rfl ?_
    show Steps p.tables e below (s₁.setTop (mkF m 1 #[.val (.ref a1), .val (.ref a2), .unset] [(.ref a2)])) _
    refine st101 _ ?_
    show Steps p.tables e below (T101.setTop (mkF m 4 #[.val (.ref a1), .val (.ref a2), .unset] [(.int (1 : Int32))])) _
    refine XS.ifYes X101.here hx rfl (pc0 := 4) (pc' := 9) rfl (hb hby d10_4) rfl ((if0 _ _).trans (feq (by decide : ¬ (1 : Int32) = 0)).2) (by decide) (by decide) ?_
    show Steps p.tables e below (T101.setTop (mkF m 9 #[.val (.ref a1), .val (.ref a2), .unset] [])) _
    refine XS.aloadN X101.here hx rfl (hb hby d10_9) rfl rfl ?_
    show Steps p.tables e below (T101.setTop (mkF m 10 #[.val (.ref a1), .val (.ref a2), .unset] [(.ref a2)])) _
    refine st102 _ ?_
    show Steps p.tables e below (T102.setTop (mkF m 13 #[.val (.ref a1), .val (.ref a2), .unset] [(.ref a2)])) _
    refine XS.astoreN X102.here hx rfl (hb hby d10_13) rfl rfl (l' := #[.val (.ref a1), .val (.ref a2), .val (.ref a2)]) rfl ?_
    show Steps p.tables e below (T102.setTop (mkF m 14 #[.val (.ref a1), .val (.ref a2), .val (.ref a2)] [])) _
    refine XS.aloadN X102.here hx rfl (hb hby d10_14) rfl rfl ?_
    show Steps p.tables e below (T102.setTop (mkF m 15 #[.val (.ref a1), .val (.ref a2), .val (.ref a2)] [(.ref a1)])) _
    refine st103 _ ?_
    show Steps p.tables e below (T103.setTop (mkF m 18 #[.val (.ref a1), .val (.ref a2), .val (.ref a2)] [(.ref n1)])) _
    refine XS.aloadN X103.here hx rfl (hb hby d10_18) rfl rfl ?_
    show Steps p.tables e below (T103.setTop (mkF m 19 #[.val (.ref a1), .val (.ref a2), .val (.ref a2)] [(.ref a2), (.ref n1)])) _
    refine st104 _ ?_
    exact k_)
  obtain ⟨t106, kb106, cd106, N106_, vs106, E1_106, V1_106, C1_106, A1_106, D1_106, B1_106, L1_106⟩ := id T0
  obtain ⟨u106, kc106, ce106, M106_, ws106, E2_106, V2_106, C2_106, A2_106, D2_106, B2_106, L2_106⟩ := id T3
  obtain ⟨cq107, kq107, q107a, q107b, q107c⟩ := isOf hZ e104 E1_106
  obtain ⟨_, _, ⟨T107, L107, k107, n107⟩, -, X107, ⟨Lc107, hQ107, l107, y107, z107⟩, st107⟩ := X104.virtualBack hx (y := (⟨"java/lang/String", "equals", "(Ljava/lang/Object;)Z"⟩ : MethodName)) (z := (⟨"java/lang/String", "equals", "(Ljava/lang/Object;)Z"⟩ : MethodName)) hown (mvT hZ (hw _ (List.mem_of_getElem? (i := 63) rfl))) (mvT hZ (hw _ (List.mem_of_getElem? (i := 64) rfl))) (notFace_of_selects (args := #[]) (mvT hZ (hw _ (List.mem_of_getElem? (i := 66) rfl)))) (mvT hZ (hw _ (List.mem_of_getElem? (i := 66) rfl))) (mvT hZ (hw _ (List.mem_of_getElem? (i := 65) rfl))) (by decide) (StrChars.Road.eqW (W := 0) hZ (own_heq hw) (kI := 4) (hw _ (List.mem_of_getElem? (i := 14) rfl)) (cs := c1) E1_106 V1_106 C1_106 A1_106 D1_106 B1_106 L1_106 (ds := c2) E2_106 V2_106 C2_106 A2_106 D2_106 B2_106 L2_106 S_c hzc (by decide) (by decide)) q107a q107c (g := (mkF m 22 #[.val (.ref a1), .val (.ref a2), .val (.ref a2)] [(.ref n2), (.ref n1)])) rfl (by rw [hml]; rfl) (Steps.refl _) (argsL := [(.ref n2)]) (rest := []) (lenOf pd_5 rfl) rfl (by show 2 * 0 + _ ≤ _; exact Nat.le_of_eq rfl) (hb hby d10_22) (fun _ _ => ⟨rfl, e104, (by decide : 0 + 0 ≤ _), (by decide : 0 + 0 ≤ _)⟩)
  dsimp only [Pt.U, Pt.locs, Pt.cells, Pt.slots] at X107 l107 y107 z107 st107 hQ107
  subst l107 y107 z107
  obtain ⟨hv107, rfl, e107⟩ := hQ107
  have N107 := Fr.app N0 (Fr.nil n0)
  rcases hv107 with ⟨rfl, hq107⟩ | ⟨rfl, hq107⟩
  · skip
    obtain ⟨T108, X108, e108, st108⟩ := getF X107 hx hZ hown (host := "") (Or.inl (hw _ (List.mem_of_getElem? (i := 48) rfl))) Via.refl e107 F1 (g := (mkF m 29 #[.val (.ref a1), .val (.ref a2), .val (.ref a2)] [(.ref a1)])) rfl rfl (hb hby d10_29)
    obtain ⟨T109, X109, e109, st109⟩ := getF X108 hx hZ hown (host := "") (Or.inl (hw _ (List.mem_of_getElem? (i := 48) rfl))) Via.refl e108 G1 (g := (mkF m 33 #[.val (.ref a1), .val (.ref a2), .val (.ref a2)] [(.ref a2), (.ref q1)])) rfl rfl (hb hby d10_33)
    have pre110 : ∀ t_, Steps p.tables e below (T109.setTop (mkF m 36 #[.val (.ref a1), .val (.ref a2), .val (.ref a2)] [(.ref q2), (.ref q1)])) t_ → Steps p.tables e below (s₁.setTop (entryFrame m #[(.ref a1), (.ref a2)] 3)) t_ := fun t_ k_ => pre105 _ (by
      show Steps p.tables e below (T104.setTop (mkF m 22 #[.val (.ref a1), .val (.ref a2), .val (.ref a2)] [(.ref n2), (.ref n1)])) _
      refine st107.trans ?_
      show Steps p.tables e below (T107.setTop (mkF m 25 #[.val (.ref a1), .val (.ref a2), .val (.ref a2)] [(.int (1 : Int32))])) _
      refine XS.ifNo X107.here hx rfl (hb hby d10_25) rfl ((if0 _ _).trans (feq (by decide : ¬ (1 : Int32) = 0)).1) ?_
      show Steps p.tables e below (T107.setTop (mkF m 28 #[.val (.ref a1), .val (.ref a2), .val (.ref a2)] [])) _
      refine XS.aloadN X107.here hx rfl (hb hby d10_28) rfl rfl ?_
      show Steps p.tables e below (T107.setTop (mkF m 29 #[.val (.ref a1), .val (.ref a2), .val (.ref a2)] [(.ref a1)])) _
      refine st108 _ ?_
      show Steps p.tables e below (T108.setTop (mkF m 32 #[.val (.ref a1), .val (.ref a2), .val (.ref a2)] [(.ref q1)])) _
      refine XS.aloadN X108.here hx rfl (hb hby d10_32) rfl rfl ?_
      show Steps p.tables e below (T108.setTop (mkF m 33 #[.val (.ref a1), .val (.ref a2), .val (.ref a2)] [(.ref a2), (.ref q1)])) _
      refine st109 _ ?_
      exact k_)
    obtain ⟨t111, kb111, cd111, N111_, vs111, E1_111, V1_111, C1_111, A1_111, D1_111, B1_111, L1_111⟩ := id T1
    obtain ⟨u111, kc111, ce111, M111_, ws111, E2_111, V2_111, C2_111, A2_111, D2_111, B2_111, L2_111⟩ := id T4
    obtain ⟨cq112, kq112, q112a, q112b, q112c⟩ := isOf hZ e109 E1_111
    obtain ⟨_, _, ⟨T112, L112, k112, n112⟩, -, X112, ⟨Lc112, hQ112, l112, y112, z112⟩, st112⟩ := X109.virtualBack hx (y := (⟨"java/lang/String", "equals", "(Ljava/lang/Object;)Z"⟩ : MethodName)) (z := (⟨"java/lang/String", "equals", "(Ljava/lang/Object;)Z"⟩ : MethodName)) hown (mvT hZ (hw _ (List.mem_of_getElem? (i := 63) rfl))) (mvT hZ (hw _ (List.mem_of_getElem? (i := 64) rfl))) (notFace_of_selects (args := #[]) (mvT hZ (hw _ (List.mem_of_getElem? (i := 66) rfl)))) (mvT hZ (hw _ (List.mem_of_getElem? (i := 66) rfl))) (mvT hZ (hw _ (List.mem_of_getElem? (i := 65) rfl))) (by decide) (StrChars.Road.eqW (W := 0) hZ (own_heq hw) (kI := 4) (hw _ (List.mem_of_getElem? (i := 14) rfl)) (cs := d1) E1_111 V1_111 C1_111 A1_111 D1_111 B1_111 L1_111 (ds := d2) E2_111 V2_111 C2_111 A2_111 D2_111 B2_111 L2_111 S_c hzc (by decide) (by decide)) q112a q112c (g := (mkF m 36 #[.val (.ref a1), .val (.ref a2), .val (.ref a2)] [(.ref q2), (.ref q1)])) rfl (by rw [hml]; rfl) (Steps.refl _) (argsL := [(.ref q2)]) (rest := []) (lenOf pd_5 rfl) rfl (by show 2 * 0 + _ ≤ _; exact Nat.le_of_eq rfl) (hb hby d10_36) (fun _ _ => ⟨rfl, e109, (by decide : 0 + 0 ≤ _), (by decide : 0 + 0 ≤ _)⟩)
    dsimp only [Pt.U, Pt.locs, Pt.cells, Pt.slots] at X112 l112 y112 z112 st112 hQ112
    subst l112 y112 z112
    obtain ⟨hv112, rfl, e112⟩ := hQ112
    have N112 := Fr.app N107 (Fr.nil n0)
    rcases hv112 with ⟨rfl, hq112⟩ | ⟨rfl, hq112⟩
    · skip
      obtain ⟨T113, X113, e113, st113⟩ := getF X112 hx hZ hown (host := "") (Or.inl (hw _ (List.mem_of_getElem? (i := 51) rfl))) Via.refl e112 F2 (g := (mkF m 43 #[.val (.ref a1), .val (.ref a2), .val (.ref a2)] [(.ref a1)])) rfl rfl (hb hby d10_43)
      obtain ⟨T114, X114, e114, st114⟩ := getF X113 hx hZ hown (host := "") (Or.inl (hw _ (List.mem_of_getElem? (i := 51) rfl))) Via.refl e113 G2 (g := (mkF m 47 #[.val (.ref a1), .val (.ref a2), .val (.ref a2)] [(.ref a2), (.ref t1)])) rfl rfl (hb hby d10_47)
      have pre115 : ∀ t_, Steps p.tables e below (T114.setTop (mkF m 50 #[.val (.ref a1), .val (.ref a2), .val (.ref a2)] [(.ref t2), (.ref t1)])) t_ → Steps p.tables e below (s₁.setTop (entryFrame m #[(.ref a1), (.ref a2)] 3)) t_ := fun t_ k_ => pre110 _ (by
        show Steps p.tables e below (T109.setTop (mkF m 36 #[.val (.ref a1), .val (.ref a2), .val (.ref a2)] [(.ref q2), (.ref q1)])) _
        refine st112.trans ?_
        show Steps p.tables e below (T112.setTop (mkF m 39 #[.val (.ref a1), .val (.ref a2), .val (.ref a2)] [(.int (1 : Int32))])) _
        refine XS.ifNo X112.here hx rfl (hb hby d10_39) rfl ((if0 _ _).trans (feq (by decide : ¬ (1 : Int32) = 0)).1) ?_
        show Steps p.tables e below (T112.setTop (mkF m 42 #[.val (.ref a1), .val (.ref a2), .val (.ref a2)] [])) _
        refine XS.aloadN X112.here hx rfl (hb hby d10_42) rfl rfl ?_
        show Steps p.tables e below (T112.setTop (mkF m 43 #[.val (.ref a1), .val (.ref a2), .val (.ref a2)] [(.ref a1)])) _
        refine st113 _ ?_
        show Steps p.tables e below (T113.setTop (mkF m 46 #[.val (.ref a1), .val (.ref a2), .val (.ref a2)] [(.ref t1)])) _
        refine XS.aloadN X113.here hx rfl (hb hby d10_46) rfl rfl ?_
        show Steps p.tables e below (T113.setTop (mkF m 47 #[.val (.ref a1), .val (.ref a2), .val (.ref a2)] [(.ref a2), (.ref t1)])) _
        refine st114 _ ?_
        exact k_)
      obtain ⟨t116, kb116, cd116, N116_, vs116, E1_116, V1_116, C1_116, A1_116, D1_116, B1_116, L1_116⟩ := id T2
      obtain ⟨u116, kc116, ce116, M116_, ws116, E2_116, V2_116, C2_116, A2_116, D2_116, B2_116, L2_116⟩ := id T5
      obtain ⟨cq117, kq117, q117a, q117b, q117c⟩ := isOf hZ e114 E1_116
      obtain ⟨_, _, ⟨T117, L117, k117, n117⟩, -, X117, ⟨Lc117, hQ117, l117, y117, z117⟩, st117⟩ := X114.virtualBack hx (y := (⟨"java/lang/String", "equals", "(Ljava/lang/Object;)Z"⟩ : MethodName)) (z := (⟨"java/lang/String", "equals", "(Ljava/lang/Object;)Z"⟩ : MethodName)) hown (mvT hZ (hw _ (List.mem_of_getElem? (i := 63) rfl))) (mvT hZ (hw _ (List.mem_of_getElem? (i := 64) rfl))) (notFace_of_selects (args := #[]) (mvT hZ (hw _ (List.mem_of_getElem? (i := 66) rfl)))) (mvT hZ (hw _ (List.mem_of_getElem? (i := 66) rfl))) (mvT hZ (hw _ (List.mem_of_getElem? (i := 65) rfl))) (by decide) (StrChars.Road.eqW (W := 0) hZ (own_heq hw) (kI := 4) (hw _ (List.mem_of_getElem? (i := 14) rfl)) (cs := e1) E1_116 V1_116 C1_116 A1_116 D1_116 B1_116 L1_116 (ds := e2) E2_116 V2_116 C2_116 A2_116 D2_116 B2_116 L2_116 S_c hzc (by decide) (by decide)) q117a q117c (g := (mkF m 50 #[.val (.ref a1), .val (.ref a2), .val (.ref a2)] [(.ref t2), (.ref t1)])) rfl (by rw [hml]; rfl) (Steps.refl _) (argsL := [(.ref t2)]) (rest := []) (lenOf pd_5 rfl) rfl (by show 2 * 0 + _ ≤ _; exact Nat.le_of_eq rfl) (hb hby d10_50) (fun _ _ => ⟨rfl, e114, (by decide : 0 + 0 ≤ _), (by decide : 0 + 0 ≤ _)⟩)
      dsimp only [Pt.U, Pt.locs, Pt.cells, Pt.slots] at X117 l117 y117 z117 st117 hQ117
      subst l117 y117 z117
      obtain ⟨hv117, rfl, e117⟩ := hQ117
      have N117 := Fr.app N112 (Fr.nil n0)
      rcases hv117 with ⟨rfl, hq117⟩ | ⟨rfl, hq117⟩
      · skip
        have pre118 : ∀ t_, Steps p.tables e below (T117.setTop (mkF m 61 #[.val (.ref a1), .val (.ref a2), .val (.ref a2)] [(.int (1 : Int32))])) t_ → Steps p.tables e below (s₁.setTop (entryFrame m #[(.ref a1), (.ref a2)] 3)) t_ := fun t_ k_ => pre115 _ (by
          show Steps p.tables e below (T114.setTop (mkF m 50 #[.val (.ref a1), .val (.ref a2), .val (.ref a2)] [(.ref t2), (.ref t1)])) _
          refine st117.trans ?_
          show Steps p.tables e below (T117.setTop (mkF m 53 #[.val (.ref a1), .val (.ref a2), .val (.ref a2)] [(.int (1 : Int32))])) _
          refine XS.ifNo X117.here hx rfl (hb hby d10_53) rfl ((if0 _ _).trans (feq (by decide : ¬ (1 : Int32) = 0)).1) ?_
          show Steps p.tables e below (T117.setTop (mkF m 56 #[.val (.ref a1), .val (.ref a2), .val (.ref a2)] [])) _
          refine XS.iconst X117.here hx rfl (hb hby d10_56) ?_
          show Steps p.tables e below (T117.setTop (mkF m 57 #[.val (.ref a1), .val (.ref a2), .val (.ref a2)] [(.int (1 : Int32))])) _
          refine XS.goto X117.here hx rfl (pc0 := 57) (pc' := 61) rfl (hb hby d10_57) (by decide) (by decide) ?_
          exact k_)
        obtain ⟨fs, hr, hrun, hended, hW, hsame⟩ := X117.leave (v := some (.int (1 : Int32))) (fun h => by rw [Bd.returns] at h; cases h)
        refine ⟨_, _, pre118 _ ?_, hrun, hended, _, _, rfl, ?_, ⟨_, rfl⟩, hW, hsame.mono (by decide) (by decide)⟩
        · show Steps p.tables e below (T117.setTop (mkF m 61 #[.val (.ref a1), .val (.ref a2), .val (.ref a2)] [(.int (1 : Int32))])) _
          exact retN X117 hx (t := .boolean) Bd.returns (by simp) (hb hby d10_61) hr
        · show QrmE2 Z a1 a2 n1 q1 t1 n2 q2 t2 c1 d1 e1 c2 d2 e2 zc h0 n0 _ T117.heap _
          rw [e117]
          exact ⟨by rw [own_deq, if_pos hq107, if_pos hq112, if_pos hq117], N117, rfl⟩
      · skip
        have pre119 : ∀ t_, Steps p.tables e below (T117.setTop (mkF m 61 #[.val (.ref a1), .val (.ref a2), .val (.ref a2)] [(.int (0 : Int32))])) t_ → Steps p.tables e below (s₁.setTop (entryFrame m #[(.ref a1), (.ref a2)] 3)) t_ := fun t_ k_ => pre115 _ (by
          show Steps p.tables e below (T114.setTop (mkF m 50 #[.val (.ref a1), .val (.ref a2), .val (.ref a2)] [(.ref t2), (.ref t1)])) _
          refine st117.trans ?_
          show Steps p.tables e below (T117.setTop (mkF m 53 #[.val (.ref a1), .val (.ref a2), .val (.ref a2)] [(.int (0 : Int32))])) _
          refine XS.ifYes X117.here hx rfl (pc0 := 53) (pc' := 60) rfl (hb hby d10_53) rfl ((if0 _ _).trans (teq (rfl : (0 : Int32) = 0)).1) (by decide) (by decide) ?_
          show Steps p.tables e below (T117.setTop (mkF m 60 #[.val (.ref a1), .val (.ref a2), .val (.ref a2)] [])) _
          refine XS.iconst X117.here hx rfl (hb hby d10_60) ?_
          exact k_)
        obtain ⟨fs, hr, hrun, hended, hW, hsame⟩ := X117.leave (v := some (.int (0 : Int32))) (fun h => by rw [Bd.returns] at h; cases h)
        refine ⟨_, _, pre119 _ ?_, hrun, hended, _, _, rfl, ?_, ⟨_, rfl⟩, hW, hsame.mono (by decide) (by decide)⟩
        · show Steps p.tables e below (T117.setTop (mkF m 61 #[.val (.ref a1), .val (.ref a2), .val (.ref a2)] [(.int (0 : Int32))])) _
          exact retN X117 hx (t := .boolean) Bd.returns (by simp) (hb hby d10_61) hr
        · show QrmE2 Z a1 a2 n1 q1 t1 n2 q2 t2 c1 d1 e1 c2 d2 e2 zc h0 n0 _ T117.heap _
          rw [e117]
          exact ⟨by rw [own_deq, if_pos hq107, if_pos hq112, if_neg hq117], N117, rfl⟩
    · skip
      have pre120 : ∀ t_, Steps p.tables e below (T112.setTop (mkF m 61 #[.val (.ref a1), .val (.ref a2), .val (.ref a2)] [(.int (0 : Int32))])) t_ → Steps p.tables e below (s₁.setTop (entryFrame m #[(.ref a1), (.ref a2)] 3)) t_ := fun t_ k_ => pre110 _ (by
        show Steps p.tables e below (T109.setTop (mkF m 36 #[.val (.ref a1), .val (.ref a2), .val (.ref a2)] [(.ref q2), (.ref q1)])) _
        refine st112.trans ?_
        show Steps p.tables e below (T112.setTop (mkF m 39 #[.val (.ref a1), .val (.ref a2), .val (.ref a2)] [(.int (0 : Int32))])) _
        refine XS.ifYes X112.here hx rfl (pc0 := 39) (pc' := 60) rfl (hb hby d10_39) rfl ((if0 _ _).trans (teq (rfl : (0 : Int32) = 0)).1) (by decide) (by decide) ?_
        show Steps p.tables e below (T112.setTop (mkF m 60 #[.val (.ref a1), .val (.ref a2), .val (.ref a2)] [])) _
        refine XS.iconst X112.here hx rfl (hb hby d10_60) ?_
        exact k_)
      obtain ⟨fs, hr, hrun, hended, hW, hsame⟩ := X112.leave (v := some (.int (0 : Int32))) (fun h => by rw [Bd.returns] at h; cases h)
      refine ⟨_, _, pre120 _ ?_, hrun, hended, _, _, rfl, ?_, ⟨_, rfl⟩, hW, hsame.mono (by decide) (by decide)⟩
      · show Steps p.tables e below (T112.setTop (mkF m 61 #[.val (.ref a1), .val (.ref a2), .val (.ref a2)] [(.int (0 : Int32))])) _
        exact retN X112 hx (t := .boolean) Bd.returns (by simp) (hb hby d10_61) hr
      · show QrmE2 Z a1 a2 n1 q1 t1 n2 q2 t2 c1 d1 e1 c2 d2 e2 zc h0 n0 _ T112.heap _
        rw [e112]
        exact ⟨by rw [own_deq, if_pos hq107, if_neg hq112], N112, rfl⟩
  · skip
    have pre121 : ∀ t_, Steps p.tables e below (T107.setTop (mkF m 61 #[.val (.ref a1), .val (.ref a2), .val (.ref a2)] [(.int (0 : Int32))])) t_ → Steps p.tables e below (s₁.setTop (entryFrame m #[(.ref a1), (.ref a2)] 3)) t_ := fun t_ k_ => pre105 _ (by
      show Steps p.tables e below (T104.setTop (mkF m 22 #[.val (.ref a1), .val (.ref a2), .val (.ref a2)] [(.ref n2), (.ref n1)])) _
      refine st107.trans ?_
      show Steps p.tables e below (T107.setTop (mkF m 25 #[.val (.ref a1), .val (.ref a2), .val (.ref a2)] [(.int (0 : Int32))])) _
      refine XS.ifYes X107.here hx rfl (pc0 := 25) (pc' := 60) rfl (hb hby d10_25) rfl ((if0 _ _).trans (teq (rfl : (0 : Int32) = 0)).1) (by decide) (by decide) ?_
      show Steps p.tables e below (T107.setTop (mkF m 60 #[.val (.ref a1), .val (.ref a2), .val (.ref a2)] [])) _
      refine XS.iconst X107.here hx rfl (hb hby d10_60) ?_
      exact k_)
    obtain ⟨fs, hr, hrun, hended, hW, hsame⟩ := X107.leave (v := some (.int (0 : Int32))) (fun h => by rw [Bd.returns] at h; cases h)
    refine ⟨_, _, pre121 _ ?_, hrun, hended, _, _, rfl, ?_, ⟨_, rfl⟩, hW, hsame.mono (by decide) (by decide)⟩
    · show Steps p.tables e below (T107.setTop (mkF m 61 #[.val (.ref a1), .val (.ref a2), .val (.ref a2)] [(.int (0 : Int32))])) _
      exact retN X107 hx (t := .boolean) Bd.returns (by simp) (hb hby d10_61) hr
    · show QrmE2 Z a1 a2 n1 q1 t1 n2 q2 t2 c1 d1 e1 c2 d2 e2 zc h0 n0 _ T107.heap _
      rw [e107]
      exact ⟨by rw [own_deq, if_neg hq107], N107, rfl⟩
theorem pd_6 : parseMethodDescriptor "(ICC)Ljava/lang/String;" = some ⟨[.int, .char, .char], some (.object "java/lang/String")⟩ := by decide +kernel
theorem pd_7 : parseMethodDescriptor "(Ljava/lang/String;Ljava/lang/String;Ljava/lang/String;)V" = some ⟨[(.object "java/lang/String"), (.object "java/lang/String"), (.object "java/lang/String")], none⟩ := by decide +kernel
theorem pd_8 : parseMethodDescriptor "(IICC)Z" = some ⟨[.int, .int, .char, .char], some .boolean⟩ := by decide +kernel
theorem ef_rm0 (m : MethodId) (x0 : Int32) (x1 : Int32) (x2 : Int32) (x3 : Int32) (x4 : Int32) : entryFrame m #[(.int x0), (.int x1), (.int x2), (.int x3), (.int x4)] maxLocals = mkF m 0 #[.val (.int x0), .val (.int x1), .val (.int x2), .val (.int x3), .val (.int x4), .unset, .unset, .unset, .unset, .unset, .unset, .unset] [] := by first | (simp [entryFrame, mkF, argsToLocals, Value.category, maxLocals]; done) | rfl
def Qrm0 (Z : State) (p1 : Int32) (p2 : Int32) (p3 : Int32) (p4 : Int32) (p5 : Int32) (zc : Int32) (h0 : Heap) (n0 : Nat) (v : Option Value) (h : Heap) (L : List Loc) : Prop := v = some (.int 1) ∧ Fr n0 L
set_option maxRecDepth 65536 in
set_option maxHeartbeats 40000000 in
theorem rm0 (l : Launch) (Z : State) (a0 : Array Value) (hw : ∀ d ∈ tables_1, d.before a0 Z = true) (ws : List Jvm.Cond) (p1 : Int32) (p2 : Int32) (p3 : Int32) (p4 : Int32) (p5 : Int32) (zc : Int32) (h0 : Heap) (n0 : Nat) (Z0 : n0 ≤ h0.size) (O : Old Z n0 h0) (S_c : Sta Z Z.heap "java/lang/String" "COMPACT_STRINGS" "Z" (.int zc)) (hzc : ¬ zc = 0) :
    MetFree l x (head1 (Jvm.Cond.code x code maxLocals ret :: ws) room_1) (fun a U => a = #[(.int p1), (.int p2), (.int p3), (.int p4), (.int p5)] ∧ Z.Warmed39 U.vm ∧ U.heap = h0 ∧ CHv Z own_EL U.vm h0) (fun _ _ _ _ _ => True) (fun _ U o U' => ∃ v L, o = .returned v ∧ Qrm0 Z p1 p2 p3 p4 p5 zc h0 n0 v U'.heap L ∧ ReturnedEndW U o U' L room_1.cells room_1.slots) := by
  refine MetFree.of_bodySF (plainFor_of_name pn_1) hisR ?_
  intro p e s m args below meth c s₁ Bd hml0 hP hK
  obtain ⟨rfl, hZ, hh, hH⟩ := hP
  have hx := Bd.exec
  have hby := Bd.bytes
  have hml : c.maxLocals = 12 := hml0
  have hown : s.vm.findClass "com/example/cranfield/cranfield/model/DocumentEqualsPinLaw" = some m.cls := findClass_of_methodNamed Bd.named
  have hnm := (name_of_methodNamed Bd.named Bd.method).1
  have X0 : Stand p l e room_1 s m #[(.int p1), (.int p2), (.int p3), (.int p4), (.int p5)] below meth c s₁ [] 0 0 := Stand.of_body Bd
  have e0 : s₁.heap = h0 := by rw [← hh, Bd.state]; rfl
  have N0 := Fr.nil n0
  have pre0 : ∀ t_, Steps p.tables e below (s₁.setTop (mkF m 0 #[.val (.int p1), .val (.int p2), .val (.int p3), .val (.int p4), .val (.int p5), .unset, .unset, .unset, .unset, .unset, .unset, .unset] [])) t_ → Steps p.tables e below (s₁.setTop (entryFrame m #[(.int p1), (.int p2), (.int p3), (.int p4), (.int p5)] maxLocals)) t_ := fun t_ k_ => castTop (ef_rm0 m p1 p2 p3 p4 p5) k_
  obtain ⟨cu, hv_cu, pre101⟩ : ∃ z_ : Int32, z_ = ((p3 &&& (255 : Int32)).toUInt32.toUInt16.toUInt32.toInt32) ∧ ∀ t_, Steps p.tables e below (s₁.setTop (mkF m 16 #[.val (.int p1), .val (.int p2), .val (.int p3), .val (.int p4), .val (.int p5), .val (.int z_), .val (.int ((p4 &&& (255 : Int32)).toUInt32.toUInt16.toUInt32.toInt32)), .unset, .unset, .unset, .unset, .unset] [])) t_ → Steps p.tables e below (s₁.setTop (entryFrame m #[(.int p1), (.int p2), (.int p3), (.int p4), (.int p5)] maxLocals)) t_ := ⟨_, rfl, fun t_ k_ => pre0 _ (by
    show Steps p.tables e below (s₁.setTop (mkF m 0 #[.val (.int p1), .val (.int p2), .val (.int p3), .val (.int p4), .val (.int p5), .unset, .unset, .unset, .unset, .unset, .unset, .unset] [])) _
    refine XS.iloadN X0.here hx rfl (hb hby at_0) rfl ?_
    show Steps p.tables e below (s₁.setTop (mkF m 1 #[.val (.int p1), .val (.int p2), .val (.int p3), .val (.int p4), .val (.int p5), .unset, .unset, .unset, .unset, .unset, .unset, .unset] [(.int p3)])) _
    refine XS.sipush X0.here hx rfl (hb hby at_1) ?_
    show Steps p.tables e below (s₁.setTop (mkF m 4 #[.val (.int p1), .val (.int p2), .val (.int p3), .val (.int p4), .val (.int p5), .unset, .unset, .unset, .unset, .unset, .unset, .unset] [(.int (255 : Int32)), (.int p3)])) _
    refine XS.iand X0.here hx rfl (hb hby at_4) rfl ?_
    show Steps p.tables e below (s₁.setTop (mkF m 5 #[.val (.int p1), .val (.int p2), .val (.int p3), .val (.int p4), .val (.int p5), .unset, .unset, .unset, .unset, .unset, .unset, .unset] [(.int (p3 &&& (255 : Int32)))])) _
    refine XS.i2c X0.here hx rfl (hb hby at_5) rfl ?_
    show Steps p.tables e below (s₁.setTop (mkF m 6 #[.val (.int p1), .val (.int p2), .val (.int p3), .val (.int p4), .val (.int p5), .unset, .unset, .unset, .unset, .unset, .unset, .unset] [(.int ((p3 &&& (255 : Int32)).toUInt32.toUInt16.toUInt32.toInt32))])) _
    refine XS.istore X0.here hx rfl (hb hby at_6) rfl (l' := #[.val (.int p1), .val (.int p2), .val (.int p3), .val (.int p4), .val (.int p5), .val (.int ((p3 &&& (255 : Int32)).toUInt32.toUInt16.toUInt32.toInt32)), .unset, .unset, .unset, .unset, .unset, .unset]) rfl ?_
    show Steps p.tables e below (s₁.setTop (mkF m 8 #[.val (.int p1), .val (.int p2), .val (.int p3), .val (.int p4), .val (.int p5), .val (.int ((p3 &&& (255 : Int32)).toUInt32.toUInt16.toUInt32.toInt32)), .unset, .unset, .unset, .unset, .unset, .unset] [])) _
    refine XS.iloadN X0.here hx rfl (hb hby at_8) rfl ?_
    show Steps p.tables e below (s₁.setTop (mkF m 9 #[.val (.int p1), .val (.int p2), .val (.int p3), .val (.int p4), .val (.int p5), .val (.int ((p3 &&& (255 : Int32)).toUInt32.toUInt16.toUInt32.toInt32)), .unset, .unset, .unset, .unset, .unset, .unset] [(.int p4)])) _
    refine XS.sipush X0.here hx rfl (hb hby at_9) ?_
    show Steps p.tables e below (s₁.setTop (mkF m 12 #[.val (.int p1), .val (.int p2), .val (.int p3), .val (.int p4), .val (.int p5), .val (.int ((p3 &&& (255 : Int32)).toUInt32.toUInt16.toUInt32.toInt32)), .unset, .unset, .unset, .unset, .unset, .unset] [(.int (255 : Int32)), (.int p4)])) _
    refine XS.iand X0.here hx rfl (hb hby at_12) rfl ?_
    show Steps p.tables e below (s₁.setTop (mkF m 13 #[.val (.int p1), .val (.int p2), .val (.int p3), .val (.int p4), .val (.int p5), .val (.int ((p3 &&& (255 : Int32)).toUInt32.toUInt16.toUInt32.toInt32)), .unset, .unset, .unset, .unset, .unset, .unset] [(.int (p4 &&& (255 : Int32)))])) _
    refine XS.i2c X0.here hx rfl (hb hby at_13) rfl ?_
    show Steps p.tables e below (s₁.setTop (mkF m 14 #[.val (.int p1), .val (.int p2), .val (.int p3), .val (.int p4), .val (.int p5), .val (.int ((p3 &&& (255 : Int32)).toUInt32.toUInt16.toUInt32.toInt32)), .unset, .unset, .unset, .unset, .unset, .unset] [(.int ((p4 &&& (255 : Int32)).toUInt32.toUInt16.toUInt32.toInt32))])) _
    refine XS.istore X0.here hx rfl (hb hby at_14) rfl (l' := #[.val (.int p1), .val (.int p2), .val (.int p3), .val (.int p4), .val (.int p5), .val (.int ((p3 &&& (255 : Int32)).toUInt32.toUInt16.toUInt32.toInt32)), .val (.int ((p4 &&& (255 : Int32)).toUInt32.toUInt16.toUInt32.toInt32)), .unset, .unset, .unset, .unset, .unset]) rfl ?_
    exact k_)⟩
  obtain ⟨cv, hv_cv, pre102⟩ : ∃ z_ : Int32, z_ = ((p4 &&& (255 : Int32)).toUInt32.toUInt16.toUInt32.toInt32) ∧ ∀ t_, Steps p.tables e below (s₁.setTop (mkF m 16 #[.val (.int p1), .val (.int p2), .val (.int p3), .val (.int p4), .val (.int p5), .val (.int cu), .val (.int z_), .unset, .unset, .unset, .unset, .unset] [])) t_ → Steps p.tables e below (s₁.setTop (entryFrame m #[(.int p1), (.int p2), (.int p3), (.int p4), (.int p5)] maxLocals)) t_ := ⟨_, rfl, fun t_ k_ => pre101 _ (by
    exact k_)⟩
  have bu : own_b8 cu := by rw [hv_cu]; exact own_c8 (own_and8 _)
  have bv : own_b8 cv := by rw [hv_cv]; exact own_c8 (own_and8 _)
  obtain ⟨T103, h103, X103, e103, Ext_da, E_da, D_da, -, st103⟩ := newO X0 hx hZ hown (hw _ (List.mem_of_getElem? (i := 0) rfl)) (hw _ (List.mem_of_getElem? (i := 1) rfl)) (hw _ (List.mem_of_getElem? (i := 2) rfl)) e0 (g := (mkF m 16 #[.val (.int p1), .val (.int p2), .val (.int p3), .val (.int p4), .val (.int p5), .val (.int cu), .val (.int cv), .unset, .unset, .unset, .unset, .unset] [])) rfl (hb hby at_16) (by decide) (by decide)
  obtain ⟨da, eq_da⟩ : ∃ z, z = h0.size := ⟨_, rfl⟩
  rw [← eq_da] at E_da D_da st103
  have g_da : n0 ≤ da := Nat.le_trans Z0 (Nat.le_of_eq eq_da.symm)
  have O_104 := O.ext Ext_da
  have Z105 : n0 ≤ h103.size := Nat.le_trans Z0 (Ext_da.1)
  have ch106 := (CHr.refl hH).trans (CHr.ext Ext_da (CHr.refl hH).1)
  have F0_da : Fld Z h103 da "com/example/cranfield/cranfield/model/Document" "docno" "Ljava/lang/String;" .null := D_da (Or.inr (hw _ (List.mem_of_getElem? (i := 46) rfl))) (ty := (.object "java/lang/String")) (by decide)
  have F1_da : Fld Z h103 da "com/example/cranfield/cranfield/model/Document" "title" "Ljava/lang/String;" .null := D_da (Or.inr (hw _ (List.mem_of_getElem? (i := 49) rfl))) (ty := (.object "java/lang/String")) (by decide)
  have F2_da : Fld Z h103 da "com/example/cranfield/cranfield/model/Document" "text" "Ljava/lang/String;" .null := D_da (Or.inr (hw _ (List.mem_of_getElem? (i := 52) rfl))) (ty := (.object "java/lang/String")) (by decide)
  have KX_da := (Keep.refl h0 []).ext Ext_da
  obtain ⟨_, _, ⟨T107, L107, k107, n107⟩, -, X107, hS107, hle107, ⟨Lc107, hQ107, l107, y107, z107, hC107⟩, st107⟩ := callSS (s := (s.setVm s.vm)) X103 hx (y := (⟨"com/example/cranfield/cranfield/model/DocumentEqualsPinLaw", "str", "(ICC)Ljava/lang/String;"⟩ : MethodName)) hown (mvT hZ (hw _ (List.mem_of_getElem? (i := 3) rfl))) (mvT hZ (hw _ (List.mem_of_getElem? (i := 4) rfl))) (mvT hZ (hw _ (List.mem_of_getElem? (i := 5) rfl))) (mvT hZ (hw _ (List.mem_of_getElem? (i := 6) rfl))) (by decide) (backOfSH (s := s) (vm0 := s.vm) (W := 2) (rmStr l Z a0 hw [] p1 cu cv zc h103 n0 Z105 O_104 S_c hzc bu bv) hZ (hw _ (List.mem_of_getElem? (i := 6) rfl)) (hw _ (List.mem_of_getElem? (i := 5) rfl)) (by decide) (by decide) (own_EW hw) ch106.1) (g := (mkF m 25 #[.val (.int p1), .val (.int p2), .val (.int p3), .val (.int p4), .val (.int p5), .val (.int cu), .val (.int cv), .unset, .unset, .unset, .unset, .unset] [(.int cv), (.int cu), (.int p1), (.ref da), (.ref da)])) rfl (by rw [hml]; rfl) (argsL := [(.int p1), (.int cu), (.int cv)]) (rest := [(.ref da), (.ref da)]) (lenOf pd_6 rfl) rfl (by show 2 * 0 + _ ≤ _; exact Nat.le_of_eq rfl) (hb hby at_25) (fun _ _ => ⟨rfl, e103, (by decide : 1 + 6 ≤ _), (by decide : 3 + 12 ≤ _)⟩)
  dsimp only [Pt.U, Pt.locs, Pt.cells, Pt.slots] at X107 l107 y107 z107 st107 hQ107 hS107 hle107 hC107
  subst l107 y107 z107
  have hle107' : h103.size ≤ T107.heap.size := by have q := hle107; rw [e103] at q; exact q
  obtain ⟨X107', hS107', hZ107, hown107⟩ := rebS (s := s) (vm0 := s.vm) ((State.WarmedH.refl s).since 0) (Nat.zero_le _) X107 hS107 hle107' hZ hown
  obtain ⟨x0, rfl, N107q, K107, Ts107, lx107⟩ := hQ107
  have N107 := Fr.app N0 N107q
  have ch108 := ch106.trans hC107
  have E_da_110 := E_da.keep K107
  have F0_da_111 := F0_da.keep K107 nin0
  have F1_da_112 := F1_da.keep K107 nin0
  have F2_da_113 := F2_da.keep K107 nin0
  have Z114 : n0 ≤ T107.heap.size := Nat.le_trans Z105 (K107.1)
  have O_115 := O_104.keep K107 all0
  obtain ⟨_, _, ⟨T116, L116, k116, n116⟩, -, X116, hS116, hle116, ⟨Lc116, hQ116, l116, y116, z116, hC116⟩, st116⟩ := callSS (s := (s.setVm T107.vm)) X107' hx (y := (⟨"com/example/cranfield/cranfield/model/DocumentEqualsPinLaw", "str", "(ICC)Ljava/lang/String;"⟩ : MethodName)) hown107 (mvT hZ107 (hw _ (List.mem_of_getElem? (i := 3) rfl))) (mvT hZ107 (hw _ (List.mem_of_getElem? (i := 4) rfl))) (mvT hZ107 (hw _ (List.mem_of_getElem? (i := 5) rfl))) (mvT hZ107 (hw _ (List.mem_of_getElem? (i := 6) rfl))) (by decide) (backOfSH (s := s) (vm0 := T107.vm) (W := 3) (rmStr l Z a0 hw [] (p1 >>> ((4 : Int32) &&& 31)) cu cv zc T107.heap n0 Z114 O_115 S_c hzc bu bv) hZ107 (hw _ (List.mem_of_getElem? (i := 6) rfl)) (hw _ (List.mem_of_getElem? (i := 5) rfl)) (by decide) (by decide) (own_EW hw) ch108.1) (g := (mkF m 35 #[.val (.int p1), .val (.int p2), .val (.int p3), .val (.int p4), .val (.int p5), .val (.int cu), .val (.int cv), .unset, .unset, .unset, .unset, .unset] [(.int cv), (.int cu), (.int (p1 >>> ((4 : Int32) &&& 31))), (.ref x0), (.ref da), (.ref da)])) rfl (by rw [hml]; rfl) (argsL := [(.int (p1 >>> ((4 : Int32) &&& 31))), (.int cu), (.int cv)]) (rest := [(.ref x0), (.ref da), (.ref da)]) (lenOf pd_6 rfl) rfl (by show 2 * 0 + _ ≤ _; exact Nat.le_of_eq rfl) (hb hby at_35) (fun _ _ => ⟨rfl, rfl, (by decide : 7 + 6 ≤ _), (by decide : 15 + 12 ≤ _)⟩)
  dsimp only [Pt.U, Pt.locs, Pt.cells, Pt.slots] at X116 l116 y116 z116 st116 hQ116 hS116 hle116 hC116
  subst l116 y116 z116
  have hle116' := hle116
  obtain ⟨X116', hS116', hZ116, hown116⟩ := rebS (s := s) (vm0 := T107.vm) hS107' (Nat.le_refl _) X116 hS116 hle116' hZ107 hown107
  obtain ⟨x1, rfl, N116q, K116, Ts116, lx116⟩ := hQ116
  have N116 := Fr.app N107 N116q
  have ch117 := ch108.trans hC116
  have T_118 := own_Strk Ts107 K116
  have E_da_120 := E_da_110.keep K116
  have F0_da_121 := F0_da_111.keep K116 nin0
  have F1_da_122 := F1_da_112.keep K116 nin0
  have F2_da_123 := F2_da_113.keep K116 nin0
  have Z124 : n0 ≤ T116.heap.size := Nat.le_trans Z114 (K116.1)
  have O_125 := O_115.keep K116 all0
  obtain ⟨_, _, ⟨T126, L126, k126, n126⟩, -, X126, hS126, hle126, ⟨Lc126, hQ126, l126, y126, z126, hC126⟩, st126⟩ := callSS (s := (s.setVm T116.vm)) X116' hx (y := (⟨"com/example/cranfield/cranfield/model/DocumentEqualsPinLaw", "str", "(ICC)Ljava/lang/String;"⟩ : MethodName)) hown116 (mvT hZ116 (hw _ (List.mem_of_getElem? (i := 3) rfl))) (mvT hZ116 (hw _ (List.mem_of_getElem? (i := 4) rfl))) (mvT hZ116 (hw _ (List.mem_of_getElem? (i := 5) rfl))) (mvT hZ116 (hw _ (List.mem_of_getElem? (i := 6) rfl))) (by decide) (backOfSH (s := s) (vm0 := T116.vm) (W := 4) (rmStr l Z a0 hw [] (p1 >>> ((8 : Int32) &&& 31)) cu cv zc T116.heap n0 Z124 O_125 S_c hzc bu bv) hZ116 (hw _ (List.mem_of_getElem? (i := 6) rfl)) (hw _ (List.mem_of_getElem? (i := 5) rfl)) (by decide) (by decide) (own_EW hw) ch117.1) (g := (mkF m 46 #[.val (.int p1), .val (.int p2), .val (.int p3), .val (.int p4), .val (.int p5), .val (.int cu), .val (.int cv), .unset, .unset, .unset, .unset, .unset] [(.int cv), (.int cu), (.int (p1 >>> ((8 : Int32) &&& 31))), (.ref x1), (.ref x0), (.ref da), (.ref da)])) rfl (by rw [hml]; rfl) (argsL := [(.int (p1 >>> ((8 : Int32) &&& 31))), (.int cu), (.int cv)]) (rest := [(.ref x1), (.ref x0), (.ref da), (.ref da)]) (lenOf pd_6 rfl) rfl (by show 2 * 0 + _ ≤ _; exact Nat.le_of_eq rfl) (hb hby at_46) (fun _ _ => ⟨rfl, rfl, (by decide : 13 + 6 ≤ _), (by decide : 27 + 12 ≤ _)⟩)
  dsimp only [Pt.U, Pt.locs, Pt.cells, Pt.slots] at X126 l126 y126 z126 st126 hQ126 hS126 hle126 hC126
  subst l126 y126 z126
  have hle126' := hle126
  obtain ⟨X126', hS126', hZ126, hown126⟩ := rebS (s := s) (vm0 := T116.vm) hS116' (Nat.le_refl _) X126 hS126 hle126' hZ116 hown116
  obtain ⟨x2, rfl, N126q, K126, Ts126, lx126⟩ := hQ126
  have N126 := Fr.app N116 N126q
  have ch127 := ch117.trans hC126
  have T_128 := own_Strk T_118 K126
  have T_129 := own_Strk Ts116 K126
  have E_da_131 := E_da_120.keep K126
  have F0_da_132 := F0_da_121.keep K126 nin0
  have F1_da_133 := F1_da_122.keep K126 nin0
  have F2_da_134 := F2_da_123.keep K126 nin0
  have Z135 : n0 ≤ T126.heap.size := Nat.le_trans Z124 (K126.1)
  have O_136 := O_125.keep K126 all0
  have kc_da := Z135
  obtain ⟨_, _, ⟨T137, L137, k137, n137⟩, -, X137, hS137, hle137, ⟨Lc137, hQ137, l137, y137, z137, hC137⟩, st137⟩ := Jvm.Stand.specialBackS (s := (s.setVm T126.vm)) X126' hx (y := (⟨"com/example/cranfield/cranfield/model/Document", "<init>", "(Ljava/lang/String;Ljava/lang/String;Ljava/lang/String;)V"⟩ : MethodName)) rfl hown126 (mvT hZ126 (hw _ (List.mem_of_getElem? (i := 35) rfl))) (mvT hZ126 (hw _ (List.mem_of_getElem? (i := 36) rfl))) (mvT hZ126 (hw _ (List.mem_of_getElem? (i := 37) rfl))) (by decide) (backOfSH (s := s) (vm0 := T126.vm) (W := 1) (rmC l Z a0 hw [] da x0 x1 x2 T126.heap n0 Z135 E_da_131 F0_da_132 F1_da_133 F2_da_134 g_da (own_Stre T_128) (own_Stre T_129) (own_Stre Ts126)) hZ126 (hw _ (List.mem_of_getElem? (i := 37) rfl)) (hw _ (List.mem_of_getElem? (i := 2) rfl)) (by decide) (by decide) (own_EW hw) ch127.1) (g := (mkF m 49 #[.val (.int p1), .val (.int p2), .val (.int p3), .val (.int p4), .val (.int p5), .val (.int cu), .val (.int cv), .unset, .unset, .unset, .unset, .unset] [(.ref x2), (.ref x1), (.ref x0), (.ref da), (.ref da)])) rfl (by rw [hml]; rfl) (Steps.refl _) (a := da) (argsL := [(.ref x0), (.ref x1), (.ref x2)]) (rest := [(.ref da)]) (lenOf pd_7 rfl) rfl (by show 2 * 0 + _ ≤ _; exact Nat.le_of_eq rfl) (hb hby at_49) (fun _ _ => ⟨rfl, rfl, (by decide : 19 + 6 ≤ _), (by decide : 39 + 68 ≤ _)⟩)
  dsimp only [Pt.U, Pt.locs, Pt.cells, Pt.slots] at X137 l137 y137 z137 st137 hQ137 hS137 hle137 hC137
  subst l137 y137 z137
  have hle137' := hle137
  obtain ⟨X137', hS137', hZ137, hown137⟩ := rebS (s := s) (vm0 := T126.vm) hS126' (Nat.le_refl _) X137 hS137 hle137' hZ126 hown126
  obtain ⟨rfl, N137q, K137, E137, F0137, F1137, F2137⟩ := hQ137
  have N137 := Fr.app N126 N137q
  have ch138 := ch127.trans hC137
  have T_139 := own_Stro T_128 K137 E_da_131 (hw _ (List.mem_of_getElem? (i := 1) rfl)) (by decide)
  have T_140 := own_Stro T_129 K137 E_da_131 (hw _ (List.mem_of_getElem? (i := 1) rfl)) (by decide)
  have T_141 := own_Stro Ts126 K137 E_da_131 (hw _ (List.mem_of_getElem? (i := 1) rfl)) (by decide)
  have Z143 : n0 ≤ T137.heap.size := Nat.le_trans Z135 (K137.1)
  have O_144 := O_136.keep K137 (allS g_da all0)
  obtain ⟨T145, h145, X145, e145, Ext_db, E_db, D_db, -, st145⟩ := newO X137' hx hZ137 hown137 (hw _ (List.mem_of_getElem? (i := 0) rfl)) (hw _ (List.mem_of_getElem? (i := 1) rfl)) (hw _ (List.mem_of_getElem? (i := 2) rfl)) rfl (g := (mkF m 54 #[.val (.int p1), .val (.int p2), .val (.int p3), .val (.int p4), .val (.int p5), .val (.int cu), .val (.int cv), .val (.ref da), .unset, .unset, .unset, .unset] [])) rfl (hb hby at_54) (by decide) (by decide)
  obtain ⟨db, eq_db⟩ : ∃ z, z = T137.heap.size := ⟨_, rfl⟩
  rw [← eq_db] at E_db D_db st145
  have g_db : n0 ≤ db := Nat.le_trans Z143 (Nat.le_of_eq eq_db.symm)
  have O_146 := O_144.ext Ext_db
  have ne_da_db : da ≠ db := Nat.ne_of_lt (Nat.lt_of_lt_of_le E137.lt (Nat.le_of_eq eq_db.symm))
  have E_da_147 := E137.ext Ext_db
  have F0_da_148 := F0137.ext Ext_db
  have F1_da_149 := F1137.ext Ext_db
  have F2_da_150 := F2137.ext Ext_db
  have Z151 : n0 ≤ h145.size := Nat.le_trans Z143 (Ext_db.1)
  have hk152 := Nat.le_trans (Nat.le_refl _) (Ext_db.1)
  have ch153 := ch138.trans (CHr.ext Ext_db ch138.1)
  have F0_db : Fld Z h145 db "com/example/cranfield/cranfield/model/Document" "docno" "Ljava/lang/String;" .null := D_db (Or.inr (hw _ (List.mem_of_getElem? (i := 46) rfl))) (ty := (.object "java/lang/String")) (by decide)
  have F1_db : Fld Z h145 db "com/example/cranfield/cranfield/model/Document" "title" "Ljava/lang/String;" .null := D_db (Or.inr (hw _ (List.mem_of_getElem? (i := 49) rfl))) (ty := (.object "java/lang/String")) (by decide)
  have F2_db : Fld Z h145 db "com/example/cranfield/cranfield/model/Document" "text" "Ljava/lang/String;" .null := D_db (Or.inr (hw _ (List.mem_of_getElem? (i := 52) rfl))) (ty := (.object "java/lang/String")) (by decide)
  have KX_db := (Keep.refl T137.heap []).ext Ext_db
  have T_154 := own_Strk T_139 KX_db
  have T_155 := own_Strk T_140 KX_db
  have T_156 := own_Strk T_141 KX_db
  obtain ⟨_, _, ⟨T157, L157, k157, n157⟩, -, X157, hS157, hle157, ⟨Lc157, hQ157, l157, y157, z157, hC157⟩, st157⟩ := callSS (s := (s.setVm T137.vm)) X145 hx (y := (⟨"com/example/cranfield/cranfield/model/DocumentEqualsPinLaw", "str", "(ICC)Ljava/lang/String;"⟩ : MethodName)) hown137 (mvT hZ137 (hw _ (List.mem_of_getElem? (i := 3) rfl))) (mvT hZ137 (hw _ (List.mem_of_getElem? (i := 4) rfl))) (mvT hZ137 (hw _ (List.mem_of_getElem? (i := 5) rfl))) (mvT hZ137 (hw _ (List.mem_of_getElem? (i := 6) rfl))) (by decide) (backOfSH (s := s) (vm0 := T137.vm) (W := 2) (rmStr l Z a0 hw [] p2 cu cv zc h145 n0 Z151 O_146 S_c hzc bu bv) hZ137 (hw _ (List.mem_of_getElem? (i := 6) rfl)) (hw _ (List.mem_of_getElem? (i := 5) rfl)) (by decide) (by decide) (own_EW hw) ch153.1) (g := (mkF m 63 #[.val (.int p1), .val (.int p2), .val (.int p3), .val (.int p4), .val (.int p5), .val (.int cu), .val (.int cv), .val (.ref da), .unset, .unset, .unset, .unset] [(.int cv), (.int cu), (.int p2), (.ref db), (.ref db)])) rfl (by rw [hml]; rfl) (argsL := [(.int p2), (.int cu), (.int cv)]) (rest := [(.ref db), (.ref db)]) (lenOf pd_6 rfl) rfl (by show 2 * 0 + _ ≤ _; exact Nat.le_of_eq rfl) (hb hby at_63) (fun _ _ => ⟨rfl, e145, (by decide : 26 + 6 ≤ _), (by decide : 110 + 12 ≤ _)⟩)
  dsimp only [Pt.U, Pt.locs, Pt.cells, Pt.slots] at X157 l157 y157 z157 st157 hQ157 hS157 hle157 hC157
  subst l157 y157 z157
  have hle157' : h145.size ≤ T157.heap.size := by have q := hle157; rw [e145] at q; exact q
  obtain ⟨X157', hS157', hZ157, hown157⟩ := rebS (s := s) (vm0 := T137.vm) hS137' hk152 X157 hS157 hle157' hZ137 hown137
  obtain ⟨x3, rfl, N157q, K157, Ts157, lx157⟩ := hQ157
  have N157 := Fr.app N137 N157q
  have ch158 := ch153.trans hC157
  have T_159 := own_Strk T_154 K157
  have T_160 := own_Strk T_155 K157
  have T_161 := own_Strk T_156 K157
  have E_da_163 := E_da_147.keep K157
  have F0_da_164 := F0_da_148.keep K157 nin0
  have F1_da_165 := F1_da_149.keep K157 nin0
  have F2_da_166 := F2_da_150.keep K157 nin0
  have E_db_168 := E_db.keep K157
  have F0_db_169 := F0_db.keep K157 nin0
  have F1_db_170 := F1_db.keep K157 nin0
  have F2_db_171 := F2_db.keep K157 nin0
  have Z172 : n0 ≤ T157.heap.size := Nat.le_trans Z151 (K157.1)
  have O_173 := O_146.keep K157 all0
  have pre174 : ∀ t_, Steps p.tables e below (T157.setTop (mkF m 71 #[.val (.int p1), .val (.int p2), .val (.int p3), .val (.int p4), .val (.int p5), .val (.int cu), .val (.int cv), .val (.ref da), .unset, .unset, .unset, .unset] [(.int cu), (.int (p2 >>> ((4 : Int32) &&& 31))), (.ref x3), (.ref db), (.ref db)])) t_ → Steps p.tables e below (s₁.setTop (entryFrame m #[(.int p1), (.int p2), (.int p3), (.int p4), (.int p5)] maxLocals)) t_ := fun t_ k_ => pre102 _ (by
    show Steps p.tables e below (s₁.setTop (mkF m 16 #[.val (.int p1), .val (.int p2), .val (.int p3), .val (.int p4), .val (.int p5), .val (.int cu), .val (.int cv), .unset, .unset, .unset, .unset, .unset] [])) _
    refine st103 _ ?_
    show Steps p.tables e below (T103.setTop (mkF m 19 #[.val (.int p1), .val (.int p2), .val (.int p3), .val (.int p4), .val (.int p5), .val (.int cu), .val (.int cv), .unset, .unset, .unset, .unset, .unset] [(.ref da)])) _
    refine XS.dup X103.here hx rfl (hb hby at_19) rfl rfl ?_
    show Steps p.tables e below (T103.setTop (mkF m 20 #[.val (.int p1), .val (.int p2), .val (.int p3), .val (.int p4), .val (.int p5), .val (.int cu), .val (.int cv), .unset, .unset, .unset, .unset, .unset] [(.ref da), (.ref da)])) _
    refine XS.iloadN X103.here hx rfl (hb hby at_20) rfl ?_
    show Steps p.tables e below (T103.setTop (mkF m 21 #[.val (.int p1), .val (.int p2), .val (.int p3), .val (.int p4), .val (.int p5), .val (.int cu), .val (.int cv), .unset, .unset, .unset, .unset, .unset] [(.int p1), (.ref da), (.ref da)])) _
    refine XS.iload X103.here hx rfl (hb hby at_21) rfl ?_
    show Steps p.tables e below (T103.setTop (mkF m 23 #[.val (.int p1), .val (.int p2), .val (.int p3), .val (.int p4), .val (.int p5), .val (.int cu), .val (.int cv), .unset, .unset, .unset, .unset, .unset] [(.int cu), (.int p1), (.ref da), (.ref da)])) _
    refine XS.iload X103.here hx rfl (hb hby at_23) rfl ?_
    show Steps p.tables e below (T103.setTop (mkF m 25 #[.val (.int p1), .val (.int p2), .val (.int p3), .val (.int p4), .val (.int p5), .val (.int cu), .val (.int cv), .unset, .unset, .unset, .unset, .unset] [(.int cv), (.int cu), (.int p1), (.ref da), (.ref da)])) _
    refine st107.trans ?_
    show Steps p.tables e below (T107.setTop (mkF m 28 #[.val (.int p1), .val (.int p2), .val (.int p3), .val (.int p4), .val (.int p5), .val (.int cu), .val (.int cv), .unset, .unset, .unset, .unset, .unset] [(.ref x0), (.ref da), (.ref da)])) _
    refine XS.iloadN X107'.here hx rfl (hb hby at_28) rfl ?_
    show Steps p.tables e below (T107.setTop (mkF m 29 #[.val (.int p1), .val (.int p2), .val (.int p3), .val (.int p4), .val (.int p5), .val (.int cu), .val (.int cv), .unset, .unset, .unset, .unset, .unset] [(.int p1), (.ref x0), (.ref da), (.ref da)])) _
    refine XS.iconst X107'.here hx rfl (hb hby at_29) ?_
    show Steps p.tables e below (T107.setTop (mkF m 30 #[.val (.int p1), .val (.int p2), .val (.int p3), .val (.int p4), .val (.int p5), .val (.int cu), .val (.int cv), .unset, .unset, .unset, .unset, .unset] [(.int (4 : Int32)), (.int p1), (.ref x0), (.ref da), (.ref da)])) _
    refine XS.ishr X107'.here hx rfl (hb hby at_30) rfl ?_
    show Steps p.tables e below (T107.setTop (mkF m 31 #[.val (.int p1), .val (.int p2), .val (.int p3), .val (.int p4), .val (.int p5), .val (.int cu), .val (.int cv), .unset, .unset, .unset, .unset, .unset] [(.int (p1 >>> ((4 : Int32) &&& 31))), (.ref x0), (.ref da), (.ref da)])) _
    refine XS.iload X107'.here hx rfl (hb hby at_31) rfl ?_
    show Steps p.tables e below (T107.setTop (mkF m 33 #[.val (.int p1), .val (.int p2), .val (.int p3), .val (.int p4), .val (.int p5), .val (.int cu), .val (.int cv), .unset, .unset, .unset, .unset, .unset] [(.int cu), (.int (p1 >>> ((4 : Int32) &&& 31))), (.ref x0), (.ref da), (.ref da)])) _
    refine XS.iload X107'.here hx rfl (hb hby at_33) rfl ?_
    show Steps p.tables e below (T107.setTop (mkF m 35 #[.val (.int p1), .val (.int p2), .val (.int p3), .val (.int p4), .val (.int p5), .val (.int cu), .val (.int cv), .unset, .unset, .unset, .unset, .unset] [(.int cv), (.int cu), (.int (p1 >>> ((4 : Int32) &&& 31))), (.ref x0), (.ref da), (.ref da)])) _
    refine st116.trans ?_
    show Steps p.tables e below (T116.setTop (mkF m 38 #[.val (.int p1), .val (.int p2), .val (.int p3), .val (.int p4), .val (.int p5), .val (.int cu), .val (.int cv), .unset, .unset, .unset, .unset, .unset] [(.ref x1), (.ref x0), (.ref da), (.ref da)])) _
    refine XS.iloadN X116'.here hx rfl (hb hby at_38) rfl ?_
    show Steps p.tables e below (T116.setTop (mkF m 39 #[.val (.int p1), .val (.int p2), .val (.int p3), .val (.int p4), .val (.int p5), .val (.int cu), .val (.int cv), .unset, .unset, .unset, .unset, .unset] [(.int p1), (.ref x1), (.ref x0), (.ref da), (.ref da)])) _
    refine XS.bipush X116'.here hx rfl (hb hby at_39) ?_
    show Steps p.tables e below (T116.setTop (mkF m 41 #[.val (.int p1), .val (.int p2), .val (.int p3), .val (.int p4), .val (.int p5), .val (.int cu), .val (.int cv), .unset, .unset, .unset, .unset, .unset] [(.int (8 : Int32)), (.int p1), (.ref x1), (.ref x0), (.ref da), (.ref da)])) _
    refine XS.ishr X116'.here hx rfl (hb hby at_41) rfl ?_
    show Steps p.tables e below (T116.setTop (mkF m 42 #[.val (.int p1), .val (.int p2), .val (.int p3), .val (.int p4), .val (.int p5), .val (.int cu), .val (.int cv), .unset, .unset, .unset, .unset, .unset] [(.int (p1 >>> ((8 : Int32) &&& 31))), (.ref x1), (.ref x0), (.ref da), (.ref da)])) _
    refine XS.iload X116'.here hx rfl (hb hby at_42) rfl ?_
    show Steps p.tables e below (T116.setTop (mkF m 44 #[.val (.int p1), .val (.int p2), .val (.int p3), .val (.int p4), .val (.int p5), .val (.int cu), .val (.int cv), .unset, .unset, .unset, .unset, .unset] [(.int cu), (.int (p1 >>> ((8 : Int32) &&& 31))), (.ref x1), (.ref x0), (.ref da), (.ref da)])) _
    refine XS.iload X116'.here hx rfl (hb hby at_44) rfl ?_
    show Steps p.tables e below (T116.setTop (mkF m 46 #[.val (.int p1), .val (.int p2), .val (.int p3), .val (.int p4), .val (.int p5), .val (.int cu), .val (.int cv), .unset, .unset, .unset, .unset, .unset] [(.int cv), (.int cu), (.int (p1 >>> ((8 : Int32) &&& 31))), (.ref x1), (.ref x0), (.ref da), (.ref da)])) _
    refine st126.trans ?_
    show Steps p.tables e below (T126.setTop (mkF m 49 #[.val (.int p1), .val (.int p2), .val (.int p3), .val (.int p4), .val (.int p5), .val (.int cu), .val (.int cv), .unset, .unset, .unset, .unset, .unset] [(.ref x2), (.ref x1), (.ref x0), (.ref da), (.ref da)])) _
    refine st137.trans ?_
    show Steps p.tables e below (T137.setTop (mkF m 52 #[.val (.int p1), .val (.int p2), .val (.int p3), .val (.int p4), .val (.int p5), .val (.int cu), .val (.int cv), .unset, .unset, .unset, .unset, .unset] [(.ref da)])) _
    refine XS.astore X137'.here hx rfl (hb hby at_52) rfl rfl (l' := #[.val (.int p1), .val (.int p2), .val (.int p3), .val (.int p4), .val (.int p5), .val (.int cu), .val (.int cv), .val (.ref da), .unset, .unset, .unset, .unset]) rfl ?_
    show Steps p.tables e below (T137.setTop (mkF m 54 #[.val (.int p1), .val (.int p2), .val (.int p3), .val (.int p4), .val (.int p5), .val (.int cu), .val (.int cv), .val (.ref da), .unset, .unset, .unset, .unset] [])) _
    refine st145 _ ?_
    show Steps p.tables e below (T145.setTop (mkF m 57 #[.val (.int p1), .val (.int p2), .val (.int p3), .val (.int p4), .val (.int p5), .val (.int cu), .val (.int cv), .val (.ref da), .unset, .unset, .unset, .unset] [(.ref db)])) _
    refine XS.dup X145.here hx rfl (hb hby at_57) rfl rfl ?_
    show Steps p.tables e below (T145.setTop (mkF m 58 #[.val (.int p1), .val (.int p2), .val (.int p3), .val (.int p4), .val (.int p5), .val (.int cu), .val (.int cv), .val (.ref da), .unset, .unset, .unset, .unset] [(.ref db), (.ref db)])) _
    refine XS.iloadN X145.here hx rfl (hb hby at_58) rfl ?_
    show Steps p.tables e below (T145.setTop (mkF m 59 #[.val (.int p1), .val (.int p2), .val (.int p3), .val (.int p4), .val (.int p5), .val (.int cu), .val (.int cv), .val (.ref da), .unset, .unset, .unset, .unset] [(.int p2), (.ref db), (.ref db)])) _
    refine XS.iload X145.here hx rfl (hb hby at_59) rfl ?_
    show Steps p.tables e below (T145.setTop (mkF m 61 #[.val (.int p1), .val (.int p2), .val (.int p3), .val (.int p4), .val (.int p5), .val (.int cu), .val (.int cv), .val (.ref da), .unset, .unset, .unset, .unset] [(.int cu), (.int p2), (.ref db), (.ref db)])) _
    refine XS.iload X145.here hx rfl (hb hby at_61) rfl ?_
    show Steps p.tables e below (T145.setTop (mkF m 63 #[.val (.int p1), .val (.int p2), .val (.int p3), .val (.int p4), .val (.int p5), .val (.int cu), .val (.int cv), .val (.ref da), .unset, .unset, .unset, .unset] [(.int cv), (.int cu), (.int p2), (.ref db), (.ref db)])) _
    refine st157.trans ?_
    show Steps p.tables e below (T157.setTop (mkF m 66 #[.val (.int p1), .val (.int p2), .val (.int p3), .val (.int p4), .val (.int p5), .val (.int cu), .val (.int cv), .val (.ref da), .unset, .unset, .unset, .unset] [(.ref x3), (.ref db), (.ref db)])) _
    refine XS.iloadN X157'.here hx rfl (hb hby at_66) rfl ?_
    show Steps p.tables e below (T157.setTop (mkF m 67 #[.val (.int p1), .val (.int p2), .val (.int p3), .val (.int p4), .val (.int p5), .val (.int cu), .val (.int cv), .val (.ref da), .unset, .unset, .unset, .unset] [(.int p2), (.ref x3), (.ref db), (.ref db)])) _
    refine XS.iconst X157'.here hx rfl (hb hby at_67) ?_
    show Steps p.tables e below (T157.setTop (mkF m 68 #[.val (.int p1), .val (.int p2), .val (.int p3), .val (.int p4), .val (.int p5), .val (.int cu), .val (.int cv), .val (.ref da), .unset, .unset, .unset, .unset] [(.int (4 : Int32)), (.int p2), (.ref x3), (.ref db), (.ref db)])) _
    refine XS.ishr X157'.here hx rfl (hb hby at_68) rfl ?_
    show Steps p.tables e below (T157.setTop (mkF m 69 #[.val (.int p1), .val (.int p2), .val (.int p3), .val (.int p4), .val (.int p5), .val (.int cu), .val (.int cv), .val (.ref da), .unset, .unset, .unset, .unset] [(.int (p2 >>> ((4 : Int32) &&& 31))), (.ref x3), (.ref db), (.ref db)])) _
    refine XS.iload X157'.here hx rfl (hb hby at_69) rfl ?_
    exact k_)
  obtain ⟨_, _, ⟨T175, L175, k175, n175⟩, -, X175, hS175, hle175, ⟨Lc175, hQ175, l175, y175, z175, hC175⟩, st175⟩ := callSS (s := (s.setVm T157.vm)) X157' hx (y := (⟨"com/example/cranfield/cranfield/model/DocumentEqualsPinLaw", "str", "(ICC)Ljava/lang/String;"⟩ : MethodName)) hown157 (mvT hZ157 (hw _ (List.mem_of_getElem? (i := 3) rfl))) (mvT hZ157 (hw _ (List.mem_of_getElem? (i := 4) rfl))) (mvT hZ157 (hw _ (List.mem_of_getElem? (i := 5) rfl))) (mvT hZ157 (hw _ (List.mem_of_getElem? (i := 6) rfl))) (by decide) (backOfSH (s := s) (vm0 := T157.vm) (W := 3) (rmStr l Z a0 hw [] (p2 >>> ((4 : Int32) &&& 31)) cu cv zc T157.heap n0 Z172 O_173 S_c hzc bu bv) hZ157 (hw _ (List.mem_of_getElem? (i := 6) rfl)) (hw _ (List.mem_of_getElem? (i := 5) rfl)) (by decide) (by decide) (own_EW hw) ch158.1) (g := (mkF m 73 #[.val (.int p1), .val (.int p2), .val (.int p3), .val (.int p4), .val (.int p5), .val (.int cu), .val (.int cv), .val (.ref da), .unset, .unset, .unset, .unset] [(.int cv), (.int cu), (.int (p2 >>> ((4 : Int32) &&& 31))), (.ref x3), (.ref db), (.ref db)])) rfl (by rw [hml]; rfl) (argsL := [(.int (p2 >>> ((4 : Int32) &&& 31))), (.int cu), (.int cv)]) (rest := [(.ref x3), (.ref db), (.ref db)]) (lenOf pd_6 rfl) rfl (by show 2 * 0 + _ ≤ _; exact Nat.le_of_eq rfl) (hb hby at_73) (fun _ _ => ⟨rfl, rfl, (by decide : 32 + 6 ≤ _), (by decide : 122 + 12 ≤ _)⟩)
  dsimp only [Pt.U, Pt.locs, Pt.cells, Pt.slots] at X175 l175 y175 z175 st175 hQ175 hS175 hle175 hC175
  subst l175 y175 z175
  have hle175' := hle175
  obtain ⟨X175', hS175', hZ175, hown175⟩ := rebS (s := s) (vm0 := T157.vm) hS157' (Nat.le_refl _) X175 hS175 hle175' hZ157 hown157
  obtain ⟨x4, rfl, N175q, K175, Ts175, lx175⟩ := hQ175
  have N175 := Fr.app N157 N175q
  have ch176 := ch158.trans hC175
  have T_177 := own_Strk T_159 K175
  have T_178 := own_Strk T_160 K175
  have T_179 := own_Strk T_161 K175
  have T_180 := own_Strk Ts157 K175
  have E_da_182 := E_da_163.keep K175
  have F0_da_183 := F0_da_164.keep K175 nin0
  have F1_da_184 := F1_da_165.keep K175 nin0
  have F2_da_185 := F2_da_166.keep K175 nin0
  have E_db_187 := E_db_168.keep K175
  have F0_db_188 := F0_db_169.keep K175 nin0
  have F1_db_189 := F1_db_170.keep K175 nin0
  have F2_db_190 := F2_db_171.keep K175 nin0
  have Z191 : n0 ≤ T175.heap.size := Nat.le_trans Z172 (K175.1)
  have O_192 := O_173.keep K175 all0
  obtain ⟨_, _, ⟨T193, L193, k193, n193⟩, -, X193, hS193, hle193, ⟨Lc193, hQ193, l193, y193, z193, hC193⟩, st193⟩ := callSS (s := (s.setVm T175.vm)) X175' hx (y := (⟨"com/example/cranfield/cranfield/model/DocumentEqualsPinLaw", "str", "(ICC)Ljava/lang/String;"⟩ : MethodName)) hown175 (mvT hZ175 (hw _ (List.mem_of_getElem? (i := 3) rfl))) (mvT hZ175 (hw _ (List.mem_of_getElem? (i := 4) rfl))) (mvT hZ175 (hw _ (List.mem_of_getElem? (i := 5) rfl))) (mvT hZ175 (hw _ (List.mem_of_getElem? (i := 6) rfl))) (by decide) (backOfSH (s := s) (vm0 := T175.vm) (W := 4) (rmStr l Z a0 hw [] (p2 >>> ((8 : Int32) &&& 31)) cu cv zc T175.heap n0 Z191 O_192 S_c hzc bu bv) hZ175 (hw _ (List.mem_of_getElem? (i := 6) rfl)) (hw _ (List.mem_of_getElem? (i := 5) rfl)) (by decide) (by decide) (own_EW hw) ch176.1) (g := (mkF m 84 #[.val (.int p1), .val (.int p2), .val (.int p3), .val (.int p4), .val (.int p5), .val (.int cu), .val (.int cv), .val (.ref da), .unset, .unset, .unset, .unset] [(.int cv), (.int cu), (.int (p2 >>> ((8 : Int32) &&& 31))), (.ref x4), (.ref x3), (.ref db), (.ref db)])) rfl (by rw [hml]; rfl) (argsL := [(.int (p2 >>> ((8 : Int32) &&& 31))), (.int cu), (.int cv)]) (rest := [(.ref x4), (.ref x3), (.ref db), (.ref db)]) (lenOf pd_6 rfl) rfl (by show 2 * 0 + _ ≤ _; exact Nat.le_of_eq rfl) (hb hby at_84) (fun _ _ => ⟨rfl, rfl, (by decide : 38 + 6 ≤ _), (by decide : 134 + 12 ≤ _)⟩)
  dsimp only [Pt.U, Pt.locs, Pt.cells, Pt.slots] at X193 l193 y193 z193 st193 hQ193 hS193 hle193 hC193
  subst l193 y193 z193
  have hle193' := hle193
  obtain ⟨X193', hS193', hZ193, hown193⟩ := rebS (s := s) (vm0 := T175.vm) hS175' (Nat.le_refl _) X193 hS193 hle193' hZ175 hown175
  obtain ⟨x5, rfl, N193q, K193, Ts193, lx193⟩ := hQ193
  have N193 := Fr.app N175 N193q
  have ch194 := ch176.trans hC193
  have T_195 := own_Strk T_177 K193
  have T_196 := own_Strk T_178 K193
  have T_197 := own_Strk T_179 K193
  have T_198 := own_Strk T_180 K193
  have T_199 := own_Strk Ts175 K193
  have E_da_201 := E_da_182.keep K193
  have F0_da_202 := F0_da_183.keep K193 nin0
  have F1_da_203 := F1_da_184.keep K193 nin0
  have F2_da_204 := F2_da_185.keep K193 nin0
  have E_db_206 := E_db_187.keep K193
  have F0_db_207 := F0_db_188.keep K193 nin0
  have F1_db_208 := F1_db_189.keep K193 nin0
  have F2_db_209 := F2_db_190.keep K193 nin0
  have Z210 : n0 ≤ T193.heap.size := Nat.le_trans Z191 (K193.1)
  have O_211 := O_192.keep K193 all0
  have kc_db := Z210
  obtain ⟨_, _, ⟨T212, L212, k212, n212⟩, -, X212, hS212, hle212, ⟨Lc212, hQ212, l212, y212, z212, hC212⟩, st212⟩ := Jvm.Stand.specialBackS (s := (s.setVm T193.vm)) X193' hx (y := (⟨"com/example/cranfield/cranfield/model/Document", "<init>", "(Ljava/lang/String;Ljava/lang/String;Ljava/lang/String;)V"⟩ : MethodName)) rfl hown193 (mvT hZ193 (hw _ (List.mem_of_getElem? (i := 35) rfl))) (mvT hZ193 (hw _ (List.mem_of_getElem? (i := 36) rfl))) (mvT hZ193 (hw _ (List.mem_of_getElem? (i := 37) rfl))) (by decide) (backOfSH (s := s) (vm0 := T193.vm) (W := 1) (rmC l Z a0 hw [] db x3 x4 x5 T193.heap n0 Z210 E_db_206 F0_db_207 F1_db_208 F2_db_209 g_db (own_Stre T_198) (own_Stre T_199) (own_Stre Ts193)) hZ193 (hw _ (List.mem_of_getElem? (i := 37) rfl)) (hw _ (List.mem_of_getElem? (i := 2) rfl)) (by decide) (by decide) (own_EW hw) ch194.1) (g := (mkF m 87 #[.val (.int p1), .val (.int p2), .val (.int p3), .val (.int p4), .val (.int p5), .val (.int cu), .val (.int cv), .val (.ref da), .unset, .unset, .unset, .unset] [(.ref x5), (.ref x4), (.ref x3), (.ref db), (.ref db)])) rfl (by rw [hml]; rfl) (Steps.refl _) (a := db) (argsL := [(.ref x3), (.ref x4), (.ref x5)]) (rest := [(.ref db)]) (lenOf pd_7 rfl) rfl (by show 2 * 0 + _ ≤ _; exact Nat.le_of_eq rfl) (hb hby at_87) (fun _ _ => ⟨rfl, rfl, (by decide : 44 + 6 ≤ _), (by decide : 146 + 68 ≤ _)⟩)
  dsimp only [Pt.U, Pt.locs, Pt.cells, Pt.slots] at X212 l212 y212 z212 st212 hQ212 hS212 hle212 hC212
  subst l212 y212 z212
  have hle212' := hle212
  obtain ⟨X212', hS212', hZ212, hown212⟩ := rebS (s := s) (vm0 := T193.vm) hS193' (Nat.le_refl _) X212 hS212 hle212' hZ193 hown193
  obtain ⟨rfl, N212q, K212, E212, F0212, F1212, F2212⟩ := hQ212
  have N212 := Fr.app N193 N212q
  have ch213 := ch194.trans hC212
  have T_214 := own_Stro T_195 K212 E_db_206 (hw _ (List.mem_of_getElem? (i := 1) rfl)) (by decide)
  have T_215 := own_Stro T_196 K212 E_db_206 (hw _ (List.mem_of_getElem? (i := 1) rfl)) (by decide)
  have T_216 := own_Stro T_197 K212 E_db_206 (hw _ (List.mem_of_getElem? (i := 1) rfl)) (by decide)
  have T_217 := own_Stro T_198 K212 E_db_206 (hw _ (List.mem_of_getElem? (i := 1) rfl)) (by decide)
  have T_218 := own_Stro T_199 K212 E_db_206 (hw _ (List.mem_of_getElem? (i := 1) rfl)) (by decide)
  have T_219 := own_Stro Ts193 K212 E_db_206 (hw _ (List.mem_of_getElem? (i := 1) rfl)) (by decide)
  have E_da_221 := E_da_201.keep K212
  have F0_da_222 := F0_da_202.keep K212 (ninS ne_da_db nin0)
  have F1_da_223 := F1_da_203.keep K212 (ninS ne_da_db nin0)
  have F2_da_224 := F2_da_204.keep K212 (ninS ne_da_db nin0)
  have Z226 : n0 ≤ T212.heap.size := Nat.le_trans Z210 (K212.1)
  have O_227 := O_211.keep K212 (allS g_db all0)
  obtain ⟨_, _, ⟨T228, L228, k228, n228⟩, -, X228, hS228, hle228, ⟨Lc228, hQ228, l228, y228, z228, hC228⟩, st228⟩ := callSS (s := (s.setVm T212.vm)) X212' hx (y := (⟨"com/example/cranfield/cranfield/model/DocumentEqualsPinLaw", "str", "(ICC)Ljava/lang/String;"⟩ : MethodName)) hown212 (mvT hZ212 (hw _ (List.mem_of_getElem? (i := 3) rfl))) (mvT hZ212 (hw _ (List.mem_of_getElem? (i := 4) rfl))) (mvT hZ212 (hw _ (List.mem_of_getElem? (i := 5) rfl))) (mvT hZ212 (hw _ (List.mem_of_getElem? (i := 6) rfl))) (by decide) (backOfSH (s := s) (vm0 := T212.vm) (W := 0) (rmStr l Z a0 hw [] p1 cu cv zc T212.heap n0 Z226 O_227 S_c hzc bu bv) hZ212 (hw _ (List.mem_of_getElem? (i := 6) rfl)) (hw _ (List.mem_of_getElem? (i := 5) rfl)) (by decide) (by decide) (own_EW hw) ch213.1) (g := (mkF m 97 #[.val (.int p1), .val (.int p2), .val (.int p3), .val (.int p4), .val (.int p5), .val (.int cu), .val (.int cv), .val (.ref da), .val (.ref db), .unset, .unset, .unset] [(.int cv), (.int cu), (.int p1)])) rfl (by rw [hml]; rfl) (argsL := [(.int p1), (.int cu), (.int cv)]) (rest := []) (lenOf pd_6 rfl) rfl (by show 2 * 0 + _ ≤ _; exact Nat.le_of_eq rfl) (hb hby at_97) (fun _ _ => ⟨rfl, rfl, (by decide : 50 + 6 ≤ _), (by decide : 214 + 12 ≤ _)⟩)
  dsimp only [Pt.U, Pt.locs, Pt.cells, Pt.slots] at X228 l228 y228 z228 st228 hQ228 hS228 hle228 hC228
  subst l228 y228 z228
  have hle228' := hle228
  obtain ⟨X228', hS228', hZ228, hown228⟩ := rebS (s := s) (vm0 := T212.vm) hS212' (Nat.le_refl _) X228 hS228 hle228' hZ212 hown212
  obtain ⟨x6, rfl, N228q, K228, Ts228, lx228⟩ := hQ228
  have N228 := Fr.app N212 N228q
  have ch229 := ch213.trans hC228
  have T_230 := own_Strk T_214 K228
  have T_231 := own_Strk T_215 K228
  have T_232 := own_Strk T_216 K228
  have T_233 := own_Strk T_217 K228
  have T_234 := own_Strk T_218 K228
  have T_235 := own_Strk T_219 K228
  have E_da_237 := E_da_221.keep K228
  have F0_da_238 := F0_da_222.keep K228 nin0
  have F1_da_239 := F1_da_223.keep K228 nin0
  have F2_da_240 := F2_da_224.keep K228 nin0
  have E_db_242 := E212.keep K228
  have F0_db_243 := F0212.keep K228 nin0
  have F1_db_244 := F1212.keep K228 nin0
  have F2_db_245 := F2212.keep K228 nin0
  have Z246 : n0 ≤ T228.heap.size := Nat.le_trans Z226 (K228.1)
  have O_247 := O_227.keep K228 all0
  obtain ⟨md, hv_md, pre248⟩ : ∃ z_ : Int32, z_ = (p5 &&& (3 : Int32)) ∧ ∀ t_, Steps p.tables e below (T228.setTop (mkF m 108 #[.val (.int p1), .val (.int p2), .val (.int p3), .val (.int p4), .val (.int p5), .val (.int cu), .val (.int cv), .val (.ref da), .val (.ref db), .val (.ref x6), .val (.int z_), .unset] [])) t_ → Steps p.tables e below (s₁.setTop (entryFrame m #[(.int p1), (.int p2), (.int p3), (.int p4), (.int p5)] maxLocals)) t_ := ⟨_, rfl, fun t_ k_ => pre174 _ (by
    show Steps p.tables e below (T157.setTop (mkF m 71 #[.val (.int p1), .val (.int p2), .val (.int p3), .val (.int p4), .val (.int p5), .val (.int cu), .val (.int cv), .val (.ref da), .unset, .unset, .unset, .unset] [(.int cu), (.int (p2 >>> ((4 : Int32) &&& 31))), (.ref x3), (.ref db), (.ref db)])) _
    refine XS.iload X157'.here hx rfl (hb hby at_71) rfl ?_
    show Steps p.tables e below (T157.setTop (mkF m 73 #[.val (.int p1), .val (.int p2), .val (.int p3), .val (.int p4), .val (.int p5), .val (.int cu), .val (.int cv), .val (.ref da), .unset, .unset, .unset, .unset] [(.int cv), (.int cu), (.int (p2 >>> ((4 : Int32) &&& 31))), (.ref x3), (.ref db), (.ref db)])) _
    refine st175.trans ?_
    show Steps p.tables e below (T175.setTop (mkF m 76 #[.val (.int p1), .val (.int p2), .val (.int p3), .val (.int p4), .val (.int p5), .val (.int cu), .val (.int cv), .val (.ref da), .unset, .unset, .unset, .unset] [(.ref x4), (.ref x3), (.ref db), (.ref db)])) _
    refine XS.iloadN X175'.here hx rfl (hb hby at_76) rfl ?_
    show Steps p.tables e below (T175.setTop (mkF m 77 #[.val (.int p1), .val (.int p2), .val (.int p3), .val (.int p4), .val (.int p5), .val (.int cu), .val (.int cv), .val (.ref da), .unset, .unset, .unset, .unset] [(.int p2), (.ref x4), (.ref x3), (.ref db), (.ref db)])) _
    refine XS.bipush X175'.here hx rfl (hb hby at_77) ?_
    show Steps p.tables e below (T175.setTop (mkF m 79 #[.val (.int p1), .val (.int p2), .val (.int p3), .val (.int p4), .val (.int p5), .val (.int cu), .val (.int cv), .val (.ref da), .unset, .unset, .unset, .unset] [(.int (8 : Int32)), (.int p2), (.ref x4), (.ref x3), (.ref db), (.ref db)])) _
    refine XS.ishr X175'.here hx rfl (hb hby at_79) rfl ?_
    show Steps p.tables e below (T175.setTop (mkF m 80 #[.val (.int p1), .val (.int p2), .val (.int p3), .val (.int p4), .val (.int p5), .val (.int cu), .val (.int cv), .val (.ref da), .unset, .unset, .unset, .unset] [(.int (p2 >>> ((8 : Int32) &&& 31))), (.ref x4), (.ref x3), (.ref db), (.ref db)])) _
    refine XS.iload X175'.here hx rfl (hb hby at_80) rfl ?_
    show Steps p.tables e below (T175.setTop (mkF m 82 #[.val (.int p1), .val (.int p2), .val (.int p3), .val (.int p4), .val (.int p5), .val (.int cu), .val (.int cv), .val (.ref da), .unset, .unset, .unset, .unset] [(.int cu), (.int (p2 >>> ((8 : Int32) &&& 31))), (.ref x4), (.ref x3), (.ref db), (.ref db)])) _
    refine XS.iload X175'.here hx rfl (hb hby at_82) rfl ?_
    show Steps p.tables e below (T175.setTop (mkF m 84 #[.val (.int p1), .val (.int p2), .val (.int p3), .val (.int p4), .val (.int p5), .val (.int cu), .val (.int cv), .val (.ref da), .unset, .unset, .unset, .unset] [(.int cv), (.int cu), (.int (p2 >>> ((8 : Int32) &&& 31))), (.ref x4), (.ref x3), (.ref db), (.ref db)])) _
    refine st193.trans ?_
    show Steps p.tables e below (T193.setTop (mkF m 87 #[.val (.int p1), .val (.int p2), .val (.int p3), .val (.int p4), .val (.int p5), .val (.int cu), .val (.int cv), .val (.ref da), .unset, .unset, .unset, .unset] [(.ref x5), (.ref x4), (.ref x3), (.ref db), (.ref db)])) _
    refine st212.trans ?_
    show Steps p.tables e below (T212.setTop (mkF m 90 #[.val (.int p1), .val (.int p2), .val (.int p3), .val (.int p4), .val (.int p5), .val (.int cu), .val (.int cv), .val (.ref da), .unset, .unset, .unset, .unset] [(.ref db)])) _
    refine XS.astore X212'.here hx rfl (hb hby at_90) rfl rfl (l' := #[.val (.int p1), .val (.int p2), .val (.int p3), .val (.int p4), .val (.int p5), .val (.int cu), .val (.int cv), .val (.ref da), .val (.ref db), .unset, .unset, .unset]) rfl ?_
    show Steps p.tables e below (T212.setTop (mkF m 92 #[.val (.int p1), .val (.int p2), .val (.int p3), .val (.int p4), .val (.int p5), .val (.int cu), .val (.int cv), .val (.ref da), .val (.ref db), .unset, .unset, .unset] [])) _
    refine XS.iloadN X212'.here hx rfl (hb hby at_92) rfl ?_
    show Steps p.tables e below (T212.setTop (mkF m 93 #[.val (.int p1), .val (.int p2), .val (.int p3), .val (.int p4), .val (.int p5), .val (.int cu), .val (.int cv), .val (.ref da), .val (.ref db), .unset, .unset, .unset] [(.int p1)])) _
    refine XS.iload X212'.here hx rfl (hb hby at_93) rfl ?_
    show Steps p.tables e below (T212.setTop (mkF m 95 #[.val (.int p1), .val (.int p2), .val (.int p3), .val (.int p4), .val (.int p5), .val (.int cu), .val (.int cv), .val (.ref da), .val (.ref db), .unset, .unset, .unset] [(.int cu), (.int p1)])) _
    refine XS.iload X212'.here hx rfl (hb hby at_95) rfl ?_
    show Steps p.tables e below (T212.setTop (mkF m 97 #[.val (.int p1), .val (.int p2), .val (.int p3), .val (.int p4), .val (.int p5), .val (.int cu), .val (.int cv), .val (.ref da), .val (.ref db), .unset, .unset, .unset] [(.int cv), (.int cu), (.int p1)])) _
    refine st228.trans ?_
    show Steps p.tables e below (T228.setTop (mkF m 100 #[.val (.int p1), .val (.int p2), .val (.int p3), .val (.int p4), .val (.int p5), .val (.int cu), .val (.int cv), .val (.ref da), .val (.ref db), .unset, .unset, .unset] [(.ref x6)])) _
    refine XS.astore X228'.here hx rfl (hb hby at_100) rfl rfl (l' := #[.val (.int p1), .val (.int p2), .val (.int p3), .val (.int p4), .val (.int p5), .val (.int cu), .val (.int cv), .val (.ref da), .val (.ref db), .val (.ref x6), .unset, .unset]) rfl ?_
    show Steps p.tables e below (T228.setTop (mkF m 102 #[.val (.int p1), .val (.int p2), .val (.int p3), .val (.int p4), .val (.int p5), .val (.int cu), .val (.int cv), .val (.ref da), .val (.ref db), .val (.ref x6), .unset, .unset] [])) _
    refine XS.iload X228'.here hx rfl (hb hby at_102) rfl ?_
    show Steps p.tables e below (T228.setTop (mkF m 104 #[.val (.int p1), .val (.int p2), .val (.int p3), .val (.int p4), .val (.int p5), .val (.int cu), .val (.int cv), .val (.ref da), .val (.ref db), .val (.ref x6), .unset, .unset] [(.int p5)])) _
    refine XS.iconst X228'.here hx rfl (hb hby at_104) ?_
    show Steps p.tables e below (T228.setTop (mkF m 105 #[.val (.int p1), .val (.int p2), .val (.int p3), .val (.int p4), .val (.int p5), .val (.int cu), .val (.int cv), .val (.ref da), .val (.ref db), .val (.ref x6), .unset, .unset] [(.int (3 : Int32)), (.int p5)])) _
    refine XS.iand X228'.here hx rfl (hb hby at_105) rfl ?_
    show Steps p.tables e below (T228.setTop (mkF m 106 #[.val (.int p1), .val (.int p2), .val (.int p3), .val (.int p4), .val (.int p5), .val (.int cu), .val (.int cv), .val (.ref da), .val (.ref db), .val (.ref x6), .unset, .unset] [(.int (p5 &&& (3 : Int32)))])) _
    refine XS.istore X228'.here hx rfl (hb hby at_106) rfl (l' := #[.val (.int p1), .val (.int p2), .val (.int p3), .val (.int p4), .val (.int p5), .val (.int cu), .val (.int cv), .val (.ref da), .val (.ref db), .val (.ref x6), .val (.int (p5 &&& (3 : Int32))), .unset]) rfl ?_
    exact k_)⟩
  have pre249 : ∀ t_, Steps p.tables e below (T228.setTop (mkF m 111 #[.val (.int p1), .val (.int p2), .val (.int p3), .val (.int p4), .val (.int p5), .val (.int cu), .val (.int cv), .val (.ref da), .val (.ref db), .val (.ref x6), .val (.int md), .unset] [(.int (1 : Int32)), (.int md)])) t_ → Steps p.tables e below (s₁.setTop (entryFrame m #[(.int p1), (.int p2), (.int p3), (.int p4), (.int p5)] maxLocals)) t_ := fun t_ k_ => pre248 _ (by
    show Steps p.tables e below (T228.setTop (mkF m 108 #[.val (.int p1), .val (.int p2), .val (.int p3), .val (.int p4), .val (.int p5), .val (.int cu), .val (.int cv), .val (.ref da), .val (.ref db), .val (.ref x6), .val (.int md), .unset] [])) _
    refine XS.iload X228'.here hx rfl (hb hby at_108) rfl ?_
    show Steps p.tables e below (T228.setTop (mkF m 110 #[.val (.int p1), .val (.int p2), .val (.int p3), .val (.int p4), .val (.int p5), .val (.int cu), .val (.int cv), .val (.ref da), .val (.ref db), .val (.ref x6), .val (.int md), .unset] [(.int md)])) _
    refine XS.iconst X228'.here hx rfl (hb hby at_110) ?_
    exact k_)
  by_cases hk1 : md = (1 : Int32)
  · skip
    obtain ⟨cq250, kq250, q250a, q250b, q250c⟩ := isOf hZ228 rfl E_da_237
    obtain ⟨_, _, ⟨T250, L250, k250, n250⟩, -, X250, ⟨Lc250, hQ250, l250, y250, z250⟩, st250⟩ := X228'.virtualBack hx (y := (⟨"com/example/cranfield/cranfield/model/Document", "equals", "(Ljava/lang/Object;)Z"⟩ : MethodName)) (z := (⟨"com/example/cranfield/cranfield/model/Document", "equals", "(Ljava/lang/Object;)Z"⟩ : MethodName)) hown228 (mvT hZ228 (hw _ (List.mem_of_getElem? (i := 56) rfl))) (mvT hZ228 (hw _ (List.mem_of_getElem? (i := 57) rfl))) (notFace_of_selects (args := #[]) (mvT hZ228 (hw _ (List.mem_of_getElem? (i := 59) rfl)))) (mvT hZ228 (hw _ (List.mem_of_getElem? (i := 59) rfl))) (mvT hZ228 (hw _ (List.mem_of_getElem? (i := 58) rfl))) (by decide) (backOf (W := 0) (rmE0 l Z a0 hw [] da T228.heap n0 Z246 ) hZ228 (hw _ (List.mem_of_getElem? (i := 60) rfl)) (hw _ (List.mem_of_getElem? (i := 2) rfl)) (by decide) (by decide)) q250a q250c (g := (mkF m 117 #[.val (.int p1), .val (.int p2), .val (.int p3), .val (.int p4), .val (.int p5), .val (.int cu), .val (.int cv), .val (.ref da), .val (.ref db), .val (.ref x6), .val (.int md), .unset] [.null, (.ref da)])) rfl (by rw [hml]; rfl) (Steps.refl _) (argsL := [.null]) (rest := []) (lenOf pd_5 rfl) rfl (by show 2 * 0 + _ ≤ _; exact Nat.le_of_eq rfl) (hb hby at_117) (fun _ _ => ⟨rfl, rfl, (by decide : 56 + 0 ≤ _), (by decide : 226 + 0 ≤ _)⟩)
    dsimp only [Pt.U, Pt.locs, Pt.cells, Pt.slots] at X250 l250 y250 z250 st250 hQ250
    subst l250 y250 z250
    obtain ⟨rfl, N250q, e250⟩ := hQ250
    have N250 := Fr.app N228 N250q
    have pre251 : ∀ t_, Steps p.tables e below (T250.setTop (mkF m 128 #[.val (.int p1), .val (.int p2), .val (.int p3), .val (.int p4), .val (.int p5), .val (.int cu), .val (.int cv), .val (.ref da), .val (.ref db), .val (.ref x6), .val (.int md), .unset] [(.int (1 : Int32))])) t_ → Steps p.tables e below (s₁.setTop (entryFrame m #[(.int p1), (.int p2), (.int p3), (.int p4), (.int p5)] maxLocals)) t_ := fun t_ k_ => pre249 _ (by
      show Steps p.tables e below (T228.setTop (mkF m 111 #[.val (.int p1), .val (.int p2), .val (.int p3), .val (.int p4), .val (.int p5), .val (.int cu), .val (.int cv), .val (.ref da), .val (.ref db), .val (.ref x6), .val (.int md), .unset] [(.int (1 : Int32)), (.int md)])) _
      refine XS.icmpNo X228'.here hx rfl (hb hby at_111) rfl (teq hk1).2 ?_
      show Steps p.tables e below (T228.setTop (mkF m 114 #[.val (.int p1), .val (.int p2), .val (.int p3), .val (.int p4), .val (.int p5), .val (.int cu), .val (.int cv), .val (.ref da), .val (.ref db), .val (.ref x6), .val (.int md), .unset] [])) _
      refine XS.aload X228'.here hx rfl (hb hby at_114) rfl rfl ?_
      show Steps p.tables e below (T228.setTop (mkF m 116 #[.val (.int p1), .val (.int p2), .val (.int p3), .val (.int p4), .val (.int p5), .val (.int cu), .val (.int cv), .val (.ref da), .val (.ref db), .val (.ref x6), .val (.int md), .unset] [(.ref da)])) _
      refine XS.aconstNull X228'.here hx rfl (hb hby at_116) ?_
      show Steps p.tables e below (T228.setTop (mkF m 117 #[.val (.int p1), .val (.int p2), .val (.int p3), .val (.int p4), .val (.int p5), .val (.int cu), .val (.int cv), .val (.ref da), .val (.ref db), .val (.ref x6), .val (.int md), .unset] [.null, (.ref da)])) _
      refine st250.trans ?_
      show Steps p.tables e below (T250.setTop (mkF m 120 #[.val (.int p1), .val (.int p2), .val (.int p3), .val (.int p4), .val (.int p5), .val (.int cu), .val (.int cv), .val (.ref da), .val (.ref db), .val (.ref x6), .val (.int md), .unset] [(.int (0 : Int32))])) _
      refine XS.ifNo X250.here hx rfl (hb hby at_120) rfl ((if0 _ _).trans (teq (rfl : (0 : Int32) = 0)).2) ?_
      show Steps p.tables e below (T250.setTop (mkF m 123 #[.val (.int p1), .val (.int p2), .val (.int p3), .val (.int p4), .val (.int p5), .val (.int cu), .val (.int cv), .val (.ref da), .val (.ref db), .val (.ref x6), .val (.int md), .unset] [])) _
      refine XS.iconst X250.here hx rfl (hb hby at_123) ?_
      show Steps p.tables e below (T250.setTop (mkF m 124 #[.val (.int p1), .val (.int p2), .val (.int p3), .val (.int p4), .val (.int p5), .val (.int cu), .val (.int cv), .val (.ref da), .val (.ref db), .val (.ref x6), .val (.int md), .unset] [(.int (1 : Int32))])) _
      refine XS.goto X250.here hx rfl (pc0 := 124) (pc' := 128) rfl (hb hby at_124) (by decide) (by decide) ?_
      exact k_)
    obtain ⟨fs, hr, hrun, hended, hWr, hW1, hW2, hsame⟩ := Jvm.Stand.leaveW (s := s) X250 hS228' (by rw [e250]; exact (Nat.le_refl _)) (v := some (.int (1 : Int32))) (fun h => by rw [Bd.returns] at h; cases h)
    refine ⟨_, _, pre251 _ ?_, hrun, hended, _, _, rfl, ?_, hWr, hW1, hW2, hsame.mono (by decide) (by decide)⟩
    · show Steps p.tables e below (T250.setTop (mkF m 128 #[.val (.int p1), .val (.int p2), .val (.int p3), .val (.int p4), .val (.int p5), .val (.int cu), .val (.int cv), .val (.ref da), .val (.ref db), .val (.ref x6), .val (.int md), .unset] [(.int (1 : Int32))])) _
      exact retN X250 hx (t := .boolean) Bd.returns (by simp) (hb hby at_128) hr
    · show Qrm0 Z p1 p2 p3 p4 p5 zc h0 n0 _ T250.heap _
      rw [e250]
      exact ⟨rfl, N250⟩
  · skip
    have pre252 : ∀ t_, Steps p.tables e below (T228.setTop (mkF m 132 #[.val (.int p1), .val (.int p2), .val (.int p3), .val (.int p4), .val (.int p5), .val (.int cu), .val (.int cv), .val (.ref da), .val (.ref db), .val (.ref x6), .val (.int md), .unset] [(.int (2 : Int32)), (.int md)])) t_ → Steps p.tables e below (s₁.setTop (entryFrame m #[(.int p1), (.int p2), (.int p3), (.int p4), (.int p5)] maxLocals)) t_ := fun t_ k_ => pre249 _ (by
      show Steps p.tables e below (T228.setTop (mkF m 111 #[.val (.int p1), .val (.int p2), .val (.int p3), .val (.int p4), .val (.int p5), .val (.int cu), .val (.int cv), .val (.ref da), .val (.ref db), .val (.ref x6), .val (.int md), .unset] [(.int (1 : Int32)), (.int md)])) _
      refine XS.icmpYes X228'.here hx rfl (pc0 := 111) (pc' := 129) rfl (hb hby at_111) rfl (feq hk1).2 (by decide) (by decide) ?_
      show Steps p.tables e below (T228.setTop (mkF m 129 #[.val (.int p1), .val (.int p2), .val (.int p3), .val (.int p4), .val (.int p5), .val (.int cu), .val (.int cv), .val (.ref da), .val (.ref db), .val (.ref x6), .val (.int md), .unset] [])) _
      refine XS.iload X228'.here hx rfl (hb hby at_129) rfl ?_
      show Steps p.tables e below (T228.setTop (mkF m 131 #[.val (.int p1), .val (.int p2), .val (.int p3), .val (.int p4), .val (.int p5), .val (.int cu), .val (.int cv), .val (.ref da), .val (.ref db), .val (.ref x6), .val (.int md), .unset] [(.int md)])) _
      refine XS.iconst X228'.here hx rfl (hb hby at_131) ?_
      exact k_)
    by_cases hk2 : md = (2 : Int32)
    · skip
      obtain ⟨cq253, kq253, q253a, q253b, q253c⟩ := isOf hZ228 rfl E_da_237
      obtain ⟨_, _, ⟨T253, L253, k253, n253⟩, -, X253, ⟨Lc253, hQ253, l253, y253, z253⟩, st253⟩ := X228'.virtualBack hx (y := (⟨"com/example/cranfield/cranfield/model/Document", "equals", "(Ljava/lang/Object;)Z"⟩ : MethodName)) (z := (⟨"com/example/cranfield/cranfield/model/Document", "equals", "(Ljava/lang/Object;)Z"⟩ : MethodName)) hown228 (mvT hZ228 (hw _ (List.mem_of_getElem? (i := 56) rfl))) (mvT hZ228 (hw _ (List.mem_of_getElem? (i := 57) rfl))) (notFace_of_selects (args := #[]) (mvT hZ228 (hw _ (List.mem_of_getElem? (i := 59) rfl)))) (mvT hZ228 (hw _ (List.mem_of_getElem? (i := 59) rfl))) (mvT hZ228 (hw _ (List.mem_of_getElem? (i := 58) rfl))) (by decide) (backOf (W := 0) (rmE1 l Z a0 hw [] da x6 T228.heap n0 Z246 (own_Stre Ts228)) hZ228 (hw _ (List.mem_of_getElem? (i := 60) rfl)) (hw _ (List.mem_of_getElem? (i := 2) rfl)) (by decide) (by decide)) q253a q253c (g := (mkF m 139 #[.val (.int p1), .val (.int p2), .val (.int p3), .val (.int p4), .val (.int p5), .val (.int cu), .val (.int cv), .val (.ref da), .val (.ref db), .val (.ref x6), .val (.int md), .unset] [(.ref x6), (.ref da)])) rfl (by rw [hml]; rfl) (Steps.refl _) (argsL := [(.ref x6)]) (rest := []) (lenOf pd_5 rfl) rfl (by show 2 * 0 + _ ≤ _; exact Nat.le_of_eq rfl) (hb hby at_139) (fun _ _ => ⟨rfl, rfl, (by decide : 56 + 0 ≤ _), (by decide : 226 + 0 ≤ _)⟩)
      dsimp only [Pt.U, Pt.locs, Pt.cells, Pt.slots] at X253 l253 y253 z253 st253 hQ253
      subst l253 y253 z253
      obtain ⟨rfl, N253q, e253⟩ := hQ253
      have N253 := Fr.app N228 N253q
      have pre254 : ∀ t_, Steps p.tables e below (T253.setTop (mkF m 150 #[.val (.int p1), .val (.int p2), .val (.int p3), .val (.int p4), .val (.int p5), .val (.int cu), .val (.int cv), .val (.ref da), .val (.ref db), .val (.ref x6), .val (.int md), .unset] [(.int (1 : Int32))])) t_ → Steps p.tables e below (s₁.setTop (entryFrame m #[(.int p1), (.int p2), (.int p3), (.int p4), (.int p5)] maxLocals)) t_ := fun t_ k_ => pre252 _ (by
        show Steps p.tables e below (T228.setTop (mkF m 132 #[.val (.int p1), .val (.int p2), .val (.int p3), .val (.int p4), .val (.int p5), .val (.int cu), .val (.int cv), .val (.ref da), .val (.ref db), .val (.ref x6), .val (.int md), .unset] [(.int (2 : Int32)), (.int md)])) _
        refine XS.icmpNo X228'.here hx rfl (hb hby at_132) rfl (teq hk2).2 ?_
        show Steps p.tables e below (T228.setTop (mkF m 135 #[.val (.int p1), .val (.int p2), .val (.int p3), .val (.int p4), .val (.int p5), .val (.int cu), .val (.int cv), .val (.ref da), .val (.ref db), .val (.ref x6), .val (.int md), .unset] [])) _
        refine XS.aload X228'.here hx rfl (hb hby at_135) rfl rfl ?_
        show Steps p.tables e below (T228.setTop (mkF m 137 #[.val (.int p1), .val (.int p2), .val (.int p3), .val (.int p4), .val (.int p5), .val (.int cu), .val (.int cv), .val (.ref da), .val (.ref db), .val (.ref x6), .val (.int md), .unset] [(.ref da)])) _
        refine XS.aload X228'.here hx rfl (hb hby at_137) rfl rfl ?_
        show Steps p.tables e below (T228.setTop (mkF m 139 #[.val (.int p1), .val (.int p2), .val (.int p3), .val (.int p4), .val (.int p5), .val (.int cu), .val (.int cv), .val (.ref da), .val (.ref db), .val (.ref x6), .val (.int md), .unset] [(.ref x6), (.ref da)])) _
        refine st253.trans ?_
        show Steps p.tables e below (T253.setTop (mkF m 142 #[.val (.int p1), .val (.int p2), .val (.int p3), .val (.int p4), .val (.int p5), .val (.int cu), .val (.int cv), .val (.ref da), .val (.ref db), .val (.ref x6), .val (.int md), .unset] [(.int (0 : Int32))])) _
        refine XS.ifNo X253.here hx rfl (hb hby at_142) rfl ((if0 _ _).trans (teq (rfl : (0 : Int32) = 0)).2) ?_
        show Steps p.tables e below (T253.setTop (mkF m 145 #[.val (.int p1), .val (.int p2), .val (.int p3), .val (.int p4), .val (.int p5), .val (.int cu), .val (.int cv), .val (.ref da), .val (.ref db), .val (.ref x6), .val (.int md), .unset] [])) _
        refine XS.iconst X253.here hx rfl (hb hby at_145) ?_
        show Steps p.tables e below (T253.setTop (mkF m 146 #[.val (.int p1), .val (.int p2), .val (.int p3), .val (.int p4), .val (.int p5), .val (.int cu), .val (.int cv), .val (.ref da), .val (.ref db), .val (.ref x6), .val (.int md), .unset] [(.int (1 : Int32))])) _
        refine XS.goto X253.here hx rfl (pc0 := 146) (pc' := 150) rfl (hb hby at_146) (by decide) (by decide) ?_
        exact k_)
      obtain ⟨fs, hr, hrun, hended, hWr, hW1, hW2, hsame⟩ := Jvm.Stand.leaveW (s := s) X253 hS228' (by rw [e253]; exact (Nat.le_refl _)) (v := some (.int (1 : Int32))) (fun h => by rw [Bd.returns] at h; cases h)
      refine ⟨_, _, pre254 _ ?_, hrun, hended, _, _, rfl, ?_, hWr, hW1, hW2, hsame.mono (by decide) (by decide)⟩
      · show Steps p.tables e below (T253.setTop (mkF m 150 #[.val (.int p1), .val (.int p2), .val (.int p3), .val (.int p4), .val (.int p5), .val (.int cu), .val (.int cv), .val (.ref da), .val (.ref db), .val (.ref x6), .val (.int md), .unset] [(.int (1 : Int32))])) _
        exact retN X253 hx (t := .boolean) Bd.returns (by simp) (hb hby at_150) hr
      · show Qrm0 Z p1 p2 p3 p4 p5 zc h0 n0 _ T253.heap _
        rw [e253]
        exact ⟨rfl, N253⟩
    · skip
      have pre255 : ∀ t_, Steps p.tables e below (T228.setTop (mkF m 154 #[.val (.int p1), .val (.int p2), .val (.int p3), .val (.int p4), .val (.int p5), .val (.int cu), .val (.int cv), .val (.ref da), .val (.ref db), .val (.ref x6), .val (.int md), .unset] [(.int (3 : Int32)), (.int md)])) t_ → Steps p.tables e below (s₁.setTop (entryFrame m #[(.int p1), (.int p2), (.int p3), (.int p4), (.int p5)] maxLocals)) t_ := fun t_ k_ => pre252 _ (by
        show Steps p.tables e below (T228.setTop (mkF m 132 #[.val (.int p1), .val (.int p2), .val (.int p3), .val (.int p4), .val (.int p5), .val (.int cu), .val (.int cv), .val (.ref da), .val (.ref db), .val (.ref x6), .val (.int md), .unset] [(.int (2 : Int32)), (.int md)])) _
        refine XS.icmpYes X228'.here hx rfl (pc0 := 132) (pc' := 151) rfl (hb hby at_132) rfl (feq hk2).2 (by decide) (by decide) ?_
        show Steps p.tables e below (T228.setTop (mkF m 151 #[.val (.int p1), .val (.int p2), .val (.int p3), .val (.int p4), .val (.int p5), .val (.int cu), .val (.int cv), .val (.ref da), .val (.ref db), .val (.ref x6), .val (.int md), .unset] [])) _
        refine XS.iload X228'.here hx rfl (hb hby at_151) rfl ?_
        show Steps p.tables e below (T228.setTop (mkF m 153 #[.val (.int p1), .val (.int p2), .val (.int p3), .val (.int p4), .val (.int p5), .val (.int cu), .val (.int cv), .val (.ref da), .val (.ref db), .val (.ref x6), .val (.int md), .unset] [(.int md)])) _
        refine XS.iconst X228'.here hx rfl (hb hby at_153) ?_
        exact k_)
      by_cases hk3 : md = (3 : Int32)
      · skip
        obtain ⟨cq256, kq256, q256a, q256b, q256c⟩ := isOf hZ228 rfl E_da_237
        obtain ⟨_, _, ⟨T256, L256, k256, n256⟩, -, X256, ⟨Lc256, hQ256, l256, y256, z256⟩, st256⟩ := X228'.virtualBack hx (y := (⟨"com/example/cranfield/cranfield/model/Document", "equals", "(Ljava/lang/Object;)Z"⟩ : MethodName)) (z := (⟨"com/example/cranfield/cranfield/model/Document", "equals", "(Ljava/lang/Object;)Z"⟩ : MethodName)) hown228 (mvT hZ228 (hw _ (List.mem_of_getElem? (i := 56) rfl))) (mvT hZ228 (hw _ (List.mem_of_getElem? (i := 57) rfl))) (notFace_of_selects (args := #[]) (mvT hZ228 (hw _ (List.mem_of_getElem? (i := 59) rfl)))) (mvT hZ228 (hw _ (List.mem_of_getElem? (i := 59) rfl))) (mvT hZ228 (hw _ (List.mem_of_getElem? (i := 58) rfl))) (by decide) (backOf (W := 0) (rmE2 l Z a0 hw [] da da x0 x1 x2 x0 x1 x2 (own_ds p1 cu cv) (own_ds (p1 >>> ((4 : Int32) &&& 31)) cu cv) (own_ds (p1 >>> ((8 : Int32) &&& 31)) cu cv) (own_ds p1 cu cv) (own_ds (p1 >>> ((4 : Int32) &&& 31)) cu cv) (own_ds (p1 >>> ((8 : Int32) &&& 31)) cu cv) zc T228.heap n0 Z246 E_da_237 F0_da_238 F1_da_239 F2_da_240 F0_da_238 F1_da_239 F2_da_240 T_230 T_231 T_232 T_230 T_231 T_232 (S_c.ext O_247.2) hzc) hZ228 (hw _ (List.mem_of_getElem? (i := 60) rfl)) (hw _ (List.mem_of_getElem? (i := 2) rfl)) (by decide) (by decide)) q256a q256c (g := (mkF m 161 #[.val (.int p1), .val (.int p2), .val (.int p3), .val (.int p4), .val (.int p5), .val (.int cu), .val (.int cv), .val (.ref da), .val (.ref db), .val (.ref x6), .val (.int md), .unset] [(.ref da), (.ref da)])) rfl (by rw [hml]; rfl) (Steps.refl _) (argsL := [(.ref da)]) (rest := []) (lenOf pd_5 rfl) rfl (by show 2 * 0 + _ ≤ _; exact Nat.le_of_eq rfl) (hb hby at_161) (fun _ _ => ⟨rfl, rfl, (by decide : 56 + 0 ≤ _), (by decide : 226 + 0 ≤ _)⟩)
        dsimp only [Pt.U, Pt.locs, Pt.cells, Pt.slots] at X256 l256 y256 z256 st256 hQ256
        subst l256 y256 z256
        obtain ⟨rfl, N256q, e256⟩ := hQ256
        have N256 := Fr.app N228 N256q
        have pre257 : ∀ t_, Steps p.tables e below (T256.setTop (mkF m 164 #[.val (.int p1), .val (.int p2), .val (.int p3), .val (.int p4), .val (.int p5), .val (.int cu), .val (.int cv), .val (.ref da), .val (.ref db), .val (.ref x6), .val (.int md), .unset] [(.int (own_deq (own_ds p1 cu cv) (own_ds (p1 >>> ((4 : Int32) &&& 31)) cu cv) (own_ds (p1 >>> ((8 : Int32) &&& 31)) cu cv) (own_ds p1 cu cv) (own_ds (p1 >>> ((4 : Int32) &&& 31)) cu cv) (own_ds (p1 >>> ((8 : Int32) &&& 31)) cu cv)))])) t_ → Steps p.tables e below (s₁.setTop (entryFrame m #[(.int p1), (.int p2), (.int p3), (.int p4), (.int p5)] maxLocals)) t_ := fun t_ k_ => pre255 _ (by
          show Steps p.tables e below (T228.setTop (mkF m 154 #[.val (.int p1), .val (.int p2), .val (.int p3), .val (.int p4), .val (.int p5), .val (.int cu), .val (.int cv), .val (.ref da), .val (.ref db), .val (.ref x6), .val (.int md), .unset] [(.int (3 : Int32)), (.int md)])) _
          refine XS.icmpNo X228'.here hx rfl (hb hby at_154) rfl (teq hk3).2 ?_
          show Steps p.tables e below (T228.setTop (mkF m 157 #[.val (.int p1), .val (.int p2), .val (.int p3), .val (.int p4), .val (.int p5), .val (.int cu), .val (.int cv), .val (.ref da), .val (.ref db), .val (.ref x6), .val (.int md), .unset] [])) _
          refine XS.aload X228'.here hx rfl (hb hby at_157) rfl rfl ?_
          show Steps p.tables e below (T228.setTop (mkF m 159 #[.val (.int p1), .val (.int p2), .val (.int p3), .val (.int p4), .val (.int p5), .val (.int cu), .val (.int cv), .val (.ref da), .val (.ref db), .val (.ref x6), .val (.int md), .unset] [(.ref da)])) _
          refine XS.aload X228'.here hx rfl (hb hby at_159) rfl rfl ?_
          show Steps p.tables e below (T228.setTop (mkF m 161 #[.val (.int p1), .val (.int p2), .val (.int p3), .val (.int p4), .val (.int p5), .val (.int cu), .val (.int cv), .val (.ref da), .val (.ref db), .val (.ref x6), .val (.int md), .unset] [(.ref da), (.ref da)])) _
          refine st256.trans ?_
          exact k_)
        obtain ⟨fs, hr, hrun, hended, hWr, hW1, hW2, hsame⟩ := Jvm.Stand.leaveW (s := s) X256 hS228' (by rw [e256]; exact (Nat.le_refl _)) (v := some (.int (nar .boolean (own_deq (own_ds p1 cu cv) (own_ds (p1 >>> ((4 : Int32) &&& 31)) cu cv) (own_ds (p1 >>> ((8 : Int32) &&& 31)) cu cv) (own_ds p1 cu cv) (own_ds (p1 >>> ((4 : Int32) &&& 31)) cu cv) (own_ds (p1 >>> ((8 : Int32) &&& 31)) cu cv))))) (fun h => by rw [Bd.returns] at h; cases h)
        refine ⟨_, _, pre257 _ ?_, hrun, hended, _, _, rfl, ?_, hWr, hW1, hW2, hsame.mono (by decide) (by decide)⟩
        · show Steps p.tables e below (T256.setTop (mkF m 164 #[.val (.int p1), .val (.int p2), .val (.int p3), .val (.int p4), .val (.int p5), .val (.int cu), .val (.int cv), .val (.ref da), .val (.ref db), .val (.ref x6), .val (.int md), .unset] [(.int (own_deq (own_ds p1 cu cv) (own_ds (p1 >>> ((4 : Int32) &&& 31)) cu cv) (own_ds (p1 >>> ((8 : Int32) &&& 31)) cu cv) (own_ds p1 cu cv) (own_ds (p1 >>> ((4 : Int32) &&& 31)) cu cv) (own_ds (p1 >>> ((8 : Int32) &&& 31)) cu cv)))])) _
          exact retN X256 hx (t := .boolean) Bd.returns (by simp) (hb hby at_164) hr
        · show Qrm0 Z p1 p2 p3 p4 p5 zc h0 n0 _ T256.heap _
          rw [e256]
          exact ⟨by rw [own_deqs]; rfl, N256⟩
      · skip
        obtain ⟨_, _, ⟨T258, L258, k258, n258⟩, -, X258, ⟨Lc258, hQ258, l258, y258, z258⟩, st258⟩ := Jvm.LawKit.callS X228' hx (y := (⟨"com/example/cranfield/cranfield/model/DocumentEqualsPinLaw", "same", "(IICC)Z"⟩ : MethodName)) hown228 (mvT hZ228 (hw _ (List.mem_of_getElem? (i := 53) rfl))) (mvT hZ228 (hw _ (List.mem_of_getElem? (i := 54) rfl))) (mvT hZ228 (hw _ (List.mem_of_getElem? (i := 5) rfl))) (mvT hZ228 (hw _ (List.mem_of_getElem? (i := 55) rfl))) (by decide) (backOf (W := 0) (rmSame l Z a0 hw [] p1 p2 cu cv T228.heap n0 Z246 bu bv) hZ228 (hw _ (List.mem_of_getElem? (i := 55) rfl)) (hw _ (List.mem_of_getElem? (i := 5) rfl)) (by decide) (by decide)) (g := (mkF m 171 #[.val (.int p1), .val (.int p2), .val (.int p3), .val (.int p4), .val (.int p5), .val (.int cu), .val (.int cv), .val (.ref da), .val (.ref db), .val (.ref x6), .val (.int md), .unset] [(.int cv), (.int cu), (.int p2), (.int p1)])) rfl (by rw [hml]; rfl) (argsL := [(.int p1), (.int p2), (.int cu), (.int cv)]) (rest := []) (lenOf pd_8 rfl) rfl (by show 2 * 0 + _ ≤ _; exact Nat.le_of_eq rfl) (hb hby at_171) (fun _ _ => ⟨rfl, rfl, (by decide : 56 + 0 ≤ _), (by decide : 226 + 0 ≤ _)⟩)
        dsimp only [Pt.U, Pt.locs, Pt.cells, Pt.slots] at X258 l258 y258 z258 st258 hQ258
        subst l258 y258 z258
        obtain ⟨rfl, N258q, e258⟩ := hQ258
        have N258 := Fr.app N228 N258q
        have pre259 : ∀ t_, Steps p.tables e below (T258.setTop (mkF m 174 #[.val (.int p1), .val (.int p2), .val (.int p3), .val (.int p4), .val (.int p5), .val (.int cu), .val (.int cv), .val (.ref da), .val (.ref db), .val (.ref x6), .val (.int md), .unset] [(.int (if own_ds p1 cu cv = own_ds p2 cu cv then (1 : Int32) else 0))])) t_ → Steps p.tables e below (s₁.setTop (entryFrame m #[(.int p1), (.int p2), (.int p3), (.int p4), (.int p5)] maxLocals)) t_ := fun t_ k_ => pre255 _ (by
          show Steps p.tables e below (T228.setTop (mkF m 154 #[.val (.int p1), .val (.int p2), .val (.int p3), .val (.int p4), .val (.int p5), .val (.int cu), .val (.int cv), .val (.ref da), .val (.ref db), .val (.ref x6), .val (.int md), .unset] [(.int (3 : Int32)), (.int md)])) _
          refine XS.icmpYes X228'.here hx rfl (pc0 := 154) (pc' := 165) rfl (hb hby at_154) rfl (feq hk3).2 (by decide) (by decide) ?_
          show Steps p.tables e below (T228.setTop (mkF m 165 #[.val (.int p1), .val (.int p2), .val (.int p3), .val (.int p4), .val (.int p5), .val (.int cu), .val (.int cv), .val (.ref da), .val (.ref db), .val (.ref x6), .val (.int md), .unset] [])) _
          refine XS.iloadN X228'.here hx rfl (hb hby at_165) rfl ?_
          show Steps p.tables e below (T228.setTop (mkF m 166 #[.val (.int p1), .val (.int p2), .val (.int p3), .val (.int p4), .val (.int p5), .val (.int cu), .val (.int cv), .val (.ref da), .val (.ref db), .val (.ref x6), .val (.int md), .unset] [(.int p1)])) _
          refine XS.iloadN X228'.here hx rfl (hb hby at_166) rfl ?_
          show Steps p.tables e below (T228.setTop (mkF m 167 #[.val (.int p1), .val (.int p2), .val (.int p3), .val (.int p4), .val (.int p5), .val (.int cu), .val (.int cv), .val (.ref da), .val (.ref db), .val (.ref x6), .val (.int md), .unset] [(.int p2), (.int p1)])) _
          refine XS.iload X228'.here hx rfl (hb hby at_167) rfl ?_
          show Steps p.tables e below (T228.setTop (mkF m 169 #[.val (.int p1), .val (.int p2), .val (.int p3), .val (.int p4), .val (.int p5), .val (.int cu), .val (.int cv), .val (.ref da), .val (.ref db), .val (.ref x6), .val (.int md), .unset] [(.int cu), (.int p2), (.int p1)])) _
          refine XS.iload X228'.here hx rfl (hb hby at_169) rfl ?_
          show Steps p.tables e below (T228.setTop (mkF m 171 #[.val (.int p1), .val (.int p2), .val (.int p3), .val (.int p4), .val (.int p5), .val (.int cu), .val (.int cv), .val (.ref da), .val (.ref db), .val (.ref x6), .val (.int md), .unset] [(.int cv), (.int cu), (.int p2), (.int p1)])) _
          refine st258 _ ?_
          exact k_)
        by_cases hA0 : (own_ds p1 cu cv) = (own_ds p2 cu cv)
        · skip
          obtain ⟨_, _, ⟨T260, L260, k260, n260⟩, -, X260, ⟨Lc260, hQ260, l260, y260, z260⟩, st260⟩ := Jvm.LawKit.callS X258 hx (y := (⟨"com/example/cranfield/cranfield/model/DocumentEqualsPinLaw", "same", "(IICC)Z"⟩ : MethodName)) hown228 (mvT hZ228 (hw _ (List.mem_of_getElem? (i := 53) rfl))) (mvT hZ228 (hw _ (List.mem_of_getElem? (i := 54) rfl))) (mvT hZ228 (hw _ (List.mem_of_getElem? (i := 5) rfl))) (mvT hZ228 (hw _ (List.mem_of_getElem? (i := 55) rfl))) (by decide) (backOf (W := 0) (rmSame l Z a0 hw [] (p1 >>> ((4 : Int32) &&& 31)) (p2 >>> ((4 : Int32) &&& 31)) cu cv T228.heap n0 Z246 bu bv) hZ228 (hw _ (List.mem_of_getElem? (i := 55) rfl)) (hw _ (List.mem_of_getElem? (i := 5) rfl)) (by decide) (by decide)) (g := (mkF m 187 #[.val (.int p1), .val (.int p2), .val (.int p3), .val (.int p4), .val (.int p5), .val (.int cu), .val (.int cv), .val (.ref da), .val (.ref db), .val (.ref x6), .val (.int md), .unset] [(.int cv), (.int cu), (.int (p2 >>> ((4 : Int32) &&& 31))), (.int (p1 >>> ((4 : Int32) &&& 31)))])) rfl (by rw [hml]; rfl) (argsL := [(.int (p1 >>> ((4 : Int32) &&& 31))), (.int (p2 >>> ((4 : Int32) &&& 31))), (.int cu), (.int cv)]) (rest := []) (lenOf pd_8 rfl) rfl (by show 2 * 0 + _ ≤ _; exact Nat.le_of_eq rfl) (hb hby at_187) (fun _ _ => ⟨rfl, e258, (by decide : 56 + 0 ≤ _), (by decide : 226 + 0 ≤ _)⟩)
          dsimp only [Pt.U, Pt.locs, Pt.cells, Pt.slots] at X260 l260 y260 z260 st260 hQ260
          subst l260 y260 z260
          obtain ⟨rfl, N260q, e260⟩ := hQ260
          have N260 := Fr.app N258 N260q
          have pre261 : ∀ t_, Steps p.tables e below (T260.setTop (mkF m 190 #[.val (.int p1), .val (.int p2), .val (.int p3), .val (.int p4), .val (.int p5), .val (.int cu), .val (.int cv), .val (.ref da), .val (.ref db), .val (.ref x6), .val (.int md), .unset] [(.int (if own_ds (p1 >>> ((4 : Int32) &&& 31)) cu cv = own_ds (p2 >>> ((4 : Int32) &&& 31)) cu cv then (1 : Int32) else 0))])) t_ → Steps p.tables e below (s₁.setTop (entryFrame m #[(.int p1), (.int p2), (.int p3), (.int p4), (.int p5)] maxLocals)) t_ := fun t_ k_ => pre259 _ (by
            show Steps p.tables e below (T258.setTop (mkF m 174 #[.val (.int p1), .val (.int p2), .val (.int p3), .val (.int p4), .val (.int p5), .val (.int cu), .val (.int cv), .val (.ref da), .val (.ref db), .val (.ref x6), .val (.int md), .unset] [(.int (if own_ds p1 cu cv = own_ds p2 cu cv then (1 : Int32) else 0))])) _
            refine XS.ifNo X258.here hx rfl (hb hby at_174) rfl ((if0 _ _).trans (feq (by rw [if_pos hA0]; decide)).1) ?_
            show Steps p.tables e below (T258.setTop (mkF m 177 #[.val (.int p1), .val (.int p2), .val (.int p3), .val (.int p4), .val (.int p5), .val (.int cu), .val (.int cv), .val (.ref da), .val (.ref db), .val (.ref x6), .val (.int md), .unset] [])) _
            refine XS.iloadN X258.here hx rfl (hb hby at_177) rfl ?_
            show Steps p.tables e below (T258.setTop (mkF m 178 #[.val (.int p1), .val (.int p2), .val (.int p3), .val (.int p4), .val (.int p5), .val (.int cu), .val (.int cv), .val (.ref da), .val (.ref db), .val (.ref x6), .val (.int md), .unset] [(.int p1)])) _
            refine XS.iconst X258.here hx rfl (hb hby at_178) ?_
            show Steps p.tables e below (T258.setTop (mkF m 179 #[.val (.int p1), .val (.int p2), .val (.int p3), .val (.int p4), .val (.int p5), .val (.int cu), .val (.int cv), .val (.ref da), .val (.ref db), .val (.ref x6), .val (.int md), .unset] [(.int (4 : Int32)), (.int p1)])) _
            refine XS.ishr X258.here hx rfl (hb hby at_179) rfl ?_
            show Steps p.tables e below (T258.setTop (mkF m 180 #[.val (.int p1), .val (.int p2), .val (.int p3), .val (.int p4), .val (.int p5), .val (.int cu), .val (.int cv), .val (.ref da), .val (.ref db), .val (.ref x6), .val (.int md), .unset] [(.int (p1 >>> ((4 : Int32) &&& 31)))])) _
            refine XS.iloadN X258.here hx rfl (hb hby at_180) rfl ?_
            show Steps p.tables e below (T258.setTop (mkF m 181 #[.val (.int p1), .val (.int p2), .val (.int p3), .val (.int p4), .val (.int p5), .val (.int cu), .val (.int cv), .val (.ref da), .val (.ref db), .val (.ref x6), .val (.int md), .unset] [(.int p2), (.int (p1 >>> ((4 : Int32) &&& 31)))])) _
            refine XS.iconst X258.here hx rfl (hb hby at_181) ?_
            show Steps p.tables e below (T258.setTop (mkF m 182 #[.val (.int p1), .val (.int p2), .val (.int p3), .val (.int p4), .val (.int p5), .val (.int cu), .val (.int cv), .val (.ref da), .val (.ref db), .val (.ref x6), .val (.int md), .unset] [(.int (4 : Int32)), (.int p2), (.int (p1 >>> ((4 : Int32) &&& 31)))])) _
            refine XS.ishr X258.here hx rfl (hb hby at_182) rfl ?_
            show Steps p.tables e below (T258.setTop (mkF m 183 #[.val (.int p1), .val (.int p2), .val (.int p3), .val (.int p4), .val (.int p5), .val (.int cu), .val (.int cv), .val (.ref da), .val (.ref db), .val (.ref x6), .val (.int md), .unset] [(.int (p2 >>> ((4 : Int32) &&& 31))), (.int (p1 >>> ((4 : Int32) &&& 31)))])) _
            refine XS.iload X258.here hx rfl (hb hby at_183) rfl ?_
            show Steps p.tables e below (T258.setTop (mkF m 185 #[.val (.int p1), .val (.int p2), .val (.int p3), .val (.int p4), .val (.int p5), .val (.int cu), .val (.int cv), .val (.ref da), .val (.ref db), .val (.ref x6), .val (.int md), .unset] [(.int cu), (.int (p2 >>> ((4 : Int32) &&& 31))), (.int (p1 >>> ((4 : Int32) &&& 31)))])) _
            refine XS.iload X258.here hx rfl (hb hby at_185) rfl ?_
            show Steps p.tables e below (T258.setTop (mkF m 187 #[.val (.int p1), .val (.int p2), .val (.int p3), .val (.int p4), .val (.int p5), .val (.int cu), .val (.int cv), .val (.ref da), .val (.ref db), .val (.ref x6), .val (.int md), .unset] [(.int cv), (.int cu), (.int (p2 >>> ((4 : Int32) &&& 31))), (.int (p1 >>> ((4 : Int32) &&& 31)))])) _
            refine st260 _ ?_
            exact k_)
          by_cases hA1 : (own_ds (p1 >>> ((4 : Int32) &&& 31)) cu cv) = (own_ds (p2 >>> ((4 : Int32) &&& 31)) cu cv)
          · skip
            obtain ⟨_, _, ⟨T262, L262, k262, n262⟩, -, X262, ⟨Lc262, hQ262, l262, y262, z262⟩, st262⟩ := Jvm.LawKit.callS X260 hx (y := (⟨"com/example/cranfield/cranfield/model/DocumentEqualsPinLaw", "same", "(IICC)Z"⟩ : MethodName)) hown228 (mvT hZ228 (hw _ (List.mem_of_getElem? (i := 53) rfl))) (mvT hZ228 (hw _ (List.mem_of_getElem? (i := 54) rfl))) (mvT hZ228 (hw _ (List.mem_of_getElem? (i := 5) rfl))) (mvT hZ228 (hw _ (List.mem_of_getElem? (i := 55) rfl))) (by decide) (backOf (W := 0) (rmSame l Z a0 hw [] (p1 >>> ((8 : Int32) &&& 31)) (p2 >>> ((8 : Int32) &&& 31)) cu cv T228.heap n0 Z246 bu bv) hZ228 (hw _ (List.mem_of_getElem? (i := 55) rfl)) (hw _ (List.mem_of_getElem? (i := 5) rfl)) (by decide) (by decide)) (g := (mkF m 205 #[.val (.int p1), .val (.int p2), .val (.int p3), .val (.int p4), .val (.int p5), .val (.int cu), .val (.int cv), .val (.ref da), .val (.ref db), .val (.ref x6), .val (.int md), .unset] [(.int cv), (.int cu), (.int (p2 >>> ((8 : Int32) &&& 31))), (.int (p1 >>> ((8 : Int32) &&& 31)))])) rfl (by rw [hml]; rfl) (argsL := [(.int (p1 >>> ((8 : Int32) &&& 31))), (.int (p2 >>> ((8 : Int32) &&& 31))), (.int cu), (.int cv)]) (rest := []) (lenOf pd_8 rfl) rfl (by show 2 * 0 + _ ≤ _; exact Nat.le_of_eq rfl) (hb hby at_205) (fun _ _ => ⟨rfl, e260, (by decide : 56 + 0 ≤ _), (by decide : 226 + 0 ≤ _)⟩)
            dsimp only [Pt.U, Pt.locs, Pt.cells, Pt.slots] at X262 l262 y262 z262 st262 hQ262
            subst l262 y262 z262
            obtain ⟨rfl, N262q, e262⟩ := hQ262
            have N262 := Fr.app N260 N262q
            have pre263 : ∀ t_, Steps p.tables e below (T262.setTop (mkF m 208 #[.val (.int p1), .val (.int p2), .val (.int p3), .val (.int p4), .val (.int p5), .val (.int cu), .val (.int cv), .val (.ref da), .val (.ref db), .val (.ref x6), .val (.int md), .unset] [(.int (if own_ds (p1 >>> ((8 : Int32) &&& 31)) cu cv = own_ds (p2 >>> ((8 : Int32) &&& 31)) cu cv then (1 : Int32) else 0))])) t_ → Steps p.tables e below (s₁.setTop (entryFrame m #[(.int p1), (.int p2), (.int p3), (.int p4), (.int p5)] maxLocals)) t_ := fun t_ k_ => pre261 _ (by
              show Steps p.tables e below (T260.setTop (mkF m 190 #[.val (.int p1), .val (.int p2), .val (.int p3), .val (.int p4), .val (.int p5), .val (.int cu), .val (.int cv), .val (.ref da), .val (.ref db), .val (.ref x6), .val (.int md), .unset] [(.int (if own_ds (p1 >>> ((4 : Int32) &&& 31)) cu cv = own_ds (p2 >>> ((4 : Int32) &&& 31)) cu cv then (1 : Int32) else 0))])) _
              refine XS.ifNo X260.here hx rfl (hb hby at_190) rfl ((if0 _ _).trans (feq (by rw [if_pos hA1]; decide)).1) ?_
              show Steps p.tables e below (T260.setTop (mkF m 193 #[.val (.int p1), .val (.int p2), .val (.int p3), .val (.int p4), .val (.int p5), .val (.int cu), .val (.int cv), .val (.ref da), .val (.ref db), .val (.ref x6), .val (.int md), .unset] [])) _
              refine XS.iloadN X260.here hx rfl (hb hby at_193) rfl ?_
              show Steps p.tables e below (T260.setTop (mkF m 194 #[.val (.int p1), .val (.int p2), .val (.int p3), .val (.int p4), .val (.int p5), .val (.int cu), .val (.int cv), .val (.ref da), .val (.ref db), .val (.ref x6), .val (.int md), .unset] [(.int p1)])) _
              refine XS.bipush X260.here hx rfl (hb hby at_194) ?_
              show Steps p.tables e below (T260.setTop (mkF m 196 #[.val (.int p1), .val (.int p2), .val (.int p3), .val (.int p4), .val (.int p5), .val (.int cu), .val (.int cv), .val (.ref da), .val (.ref db), .val (.ref x6), .val (.int md), .unset] [(.int (8 : Int32)), (.int p1)])) _
              refine XS.ishr X260.here hx rfl (hb hby at_196) rfl ?_
              show Steps p.tables e below (T260.setTop (mkF m 197 #[.val (.int p1), .val (.int p2), .val (.int p3), .val (.int p4), .val (.int p5), .val (.int cu), .val (.int cv), .val (.ref da), .val (.ref db), .val (.ref x6), .val (.int md), .unset] [(.int (p1 >>> ((8 : Int32) &&& 31)))])) _
              refine XS.iloadN X260.here hx rfl (hb hby at_197) rfl ?_
              show Steps p.tables e below (T260.setTop (mkF m 198 #[.val (.int p1), .val (.int p2), .val (.int p3), .val (.int p4), .val (.int p5), .val (.int cu), .val (.int cv), .val (.ref da), .val (.ref db), .val (.ref x6), .val (.int md), .unset] [(.int p2), (.int (p1 >>> ((8 : Int32) &&& 31)))])) _
              refine XS.bipush X260.here hx rfl (hb hby at_198) ?_
              show Steps p.tables e below (T260.setTop (mkF m 200 #[.val (.int p1), .val (.int p2), .val (.int p3), .val (.int p4), .val (.int p5), .val (.int cu), .val (.int cv), .val (.ref da), .val (.ref db), .val (.ref x6), .val (.int md), .unset] [(.int (8 : Int32)), (.int p2), (.int (p1 >>> ((8 : Int32) &&& 31)))])) _
              refine XS.ishr X260.here hx rfl (hb hby at_200) rfl ?_
              show Steps p.tables e below (T260.setTop (mkF m 201 #[.val (.int p1), .val (.int p2), .val (.int p3), .val (.int p4), .val (.int p5), .val (.int cu), .val (.int cv), .val (.ref da), .val (.ref db), .val (.ref x6), .val (.int md), .unset] [(.int (p2 >>> ((8 : Int32) &&& 31))), (.int (p1 >>> ((8 : Int32) &&& 31)))])) _
              refine XS.iload X260.here hx rfl (hb hby at_201) rfl ?_
              show Steps p.tables e below (T260.setTop (mkF m 203 #[.val (.int p1), .val (.int p2), .val (.int p3), .val (.int p4), .val (.int p5), .val (.int cu), .val (.int cv), .val (.ref da), .val (.ref db), .val (.ref x6), .val (.int md), .unset] [(.int cu), (.int (p2 >>> ((8 : Int32) &&& 31))), (.int (p1 >>> ((8 : Int32) &&& 31)))])) _
              refine XS.iload X260.here hx rfl (hb hby at_203) rfl ?_
              show Steps p.tables e below (T260.setTop (mkF m 205 #[.val (.int p1), .val (.int p2), .val (.int p3), .val (.int p4), .val (.int p5), .val (.int cu), .val (.int cv), .val (.ref da), .val (.ref db), .val (.ref x6), .val (.int md), .unset] [(.int cv), (.int cu), (.int (p2 >>> ((8 : Int32) &&& 31))), (.int (p1 >>> ((8 : Int32) &&& 31)))])) _
              refine st262 _ ?_
              exact k_)
            by_cases hA2 : (own_ds (p1 >>> ((8 : Int32) &&& 31)) cu cv) = (own_ds (p2 >>> ((8 : Int32) &&& 31)) cu cv)
            · skip
              obtain ⟨cq264, kq264, q264a, q264b, q264c⟩ := isOf hZ228 e262 E_da_237
              obtain ⟨_, _, ⟨T264, L264, k264, n264⟩, -, X264, ⟨Lc264, hQ264, l264, y264, z264⟩, st264⟩ := X262.virtualBack hx (y := (⟨"com/example/cranfield/cranfield/model/Document", "equals", "(Ljava/lang/Object;)Z"⟩ : MethodName)) (z := (⟨"com/example/cranfield/cranfield/model/Document", "equals", "(Ljava/lang/Object;)Z"⟩ : MethodName)) hown228 (mvT hZ228 (hw _ (List.mem_of_getElem? (i := 56) rfl))) (mvT hZ228 (hw _ (List.mem_of_getElem? (i := 57) rfl))) (notFace_of_selects (args := #[]) (mvT hZ228 (hw _ (List.mem_of_getElem? (i := 59) rfl)))) (mvT hZ228 (hw _ (List.mem_of_getElem? (i := 59) rfl))) (mvT hZ228 (hw _ (List.mem_of_getElem? (i := 58) rfl))) (by decide) (backOf (W := 0) (rmE2 l Z a0 hw [] da db x0 x1 x2 x3 x4 x5 (own_ds p1 cu cv) (own_ds (p1 >>> ((4 : Int32) &&& 31)) cu cv) (own_ds (p1 >>> ((8 : Int32) &&& 31)) cu cv) (own_ds p2 cu cv) (own_ds (p2 >>> ((4 : Int32) &&& 31)) cu cv) (own_ds (p2 >>> ((8 : Int32) &&& 31)) cu cv) zc T228.heap n0 Z246 E_db_242 F0_da_238 F1_da_239 F2_da_240 F0_db_243 F1_db_244 F2_db_245 T_230 T_231 T_232 T_233 T_234 T_235 (S_c.ext O_247.2) hzc) hZ228 (hw _ (List.mem_of_getElem? (i := 60) rfl)) (hw _ (List.mem_of_getElem? (i := 2) rfl)) (by decide) (by decide)) q264a q264c (g := (mkF m 222 #[.val (.int p1), .val (.int p2), .val (.int p3), .val (.int p4), .val (.int p5), .val (.int cu), .val (.int cv), .val (.ref da), .val (.ref db), .val (.ref x6), .val (.int md), .val (.int (1 : Int32))] [(.ref db), (.ref da)])) rfl (by rw [hml]; rfl) (Steps.refl _) (argsL := [(.ref db)]) (rest := []) (lenOf pd_5 rfl) rfl (by show 2 * 0 + _ ≤ _; exact Nat.le_of_eq rfl) (hb hby at_222) (fun _ _ => ⟨rfl, e262, (by decide : 56 + 0 ≤ _), (by decide : 226 + 0 ≤ _)⟩)
              dsimp only [Pt.U, Pt.locs, Pt.cells, Pt.slots] at X264 l264 y264 z264 st264 hQ264
              subst l264 y264 z264
              obtain ⟨rfl, N264q, e264⟩ := hQ264
              have N264 := Fr.app N262 N264q
              obtain ⟨cq265, kq265, q265a, q265b, q265c⟩ := isOf hZ228 e264 E_db_242
              obtain ⟨_, _, ⟨T265, L265, k265, n265⟩, -, X265, ⟨Lc265, hQ265, l265, y265, z265⟩, st265⟩ := X264.virtualBack hx (y := (⟨"com/example/cranfield/cranfield/model/Document", "equals", "(Ljava/lang/Object;)Z"⟩ : MethodName)) (z := (⟨"com/example/cranfield/cranfield/model/Document", "equals", "(Ljava/lang/Object;)Z"⟩ : MethodName)) hown228 (mvT hZ228 (hw _ (List.mem_of_getElem? (i := 56) rfl))) (mvT hZ228 (hw _ (List.mem_of_getElem? (i := 57) rfl))) (notFace_of_selects (args := #[]) (mvT hZ228 (hw _ (List.mem_of_getElem? (i := 59) rfl)))) (mvT hZ228 (hw _ (List.mem_of_getElem? (i := 59) rfl))) (mvT hZ228 (hw _ (List.mem_of_getElem? (i := 58) rfl))) (by decide) (backOf (W := 0) (rmE2 l Z a0 hw [] db da x3 x4 x5 x0 x1 x2 (own_ds p2 cu cv) (own_ds (p2 >>> ((4 : Int32) &&& 31)) cu cv) (own_ds (p2 >>> ((8 : Int32) &&& 31)) cu cv) (own_ds p1 cu cv) (own_ds (p1 >>> ((4 : Int32) &&& 31)) cu cv) (own_ds (p1 >>> ((8 : Int32) &&& 31)) cu cv) zc T228.heap n0 Z246 E_da_237 F0_db_243 F1_db_244 F2_db_245 F0_da_238 F1_da_239 F2_da_240 T_233 T_234 T_235 T_230 T_231 T_232 (S_c.ext O_247.2) hzc) hZ228 (hw _ (List.mem_of_getElem? (i := 60) rfl)) (hw _ (List.mem_of_getElem? (i := 2) rfl)) (by decide) (by decide)) q265a q265c (g := (mkF m 234 #[.val (.int p1), .val (.int p2), .val (.int p3), .val (.int p4), .val (.int p5), .val (.int cu), .val (.int cv), .val (.ref da), .val (.ref db), .val (.ref x6), .val (.int md), .val (.int (1 : Int32))] [(.ref da), (.ref db)])) rfl (by rw [hml]; rfl) (Steps.refl _) (argsL := [(.ref da)]) (rest := []) (lenOf pd_5 rfl) rfl (by show 2 * 0 + _ ≤ _; exact Nat.le_of_eq rfl) (hb hby at_234) (fun _ _ => ⟨rfl, e264, (by decide : 56 + 0 ≤ _), (by decide : 226 + 0 ≤ _)⟩)
              dsimp only [Pt.U, Pt.locs, Pt.cells, Pt.slots] at X265 l265 y265 z265 st265 hQ265
              subst l265 y265 z265
              obtain ⟨rfl, N265q, e265⟩ := hQ265
              have N265 := Fr.app N264 N265q
              have pre266 : ∀ t_, Steps p.tables e below (T265.setTop (mkF m 247 #[.val (.int p1), .val (.int p2), .val (.int p3), .val (.int p4), .val (.int p5), .val (.int cu), .val (.int cv), .val (.ref da), .val (.ref db), .val (.ref x6), .val (.int md), .val (.int (1 : Int32))] [(.int (1 : Int32))])) t_ → Steps p.tables e below (s₁.setTop (entryFrame m #[(.int p1), (.int p2), (.int p3), (.int p4), (.int p5)] maxLocals)) t_ := fun t_ k_ => pre263 _ (by
                show Steps p.tables e below (T262.setTop (mkF m 208 #[.val (.int p1), .val (.int p2), .val (.int p3), .val (.int p4), .val (.int p5), .val (.int cu), .val (.int cv), .val (.ref da), .val (.ref db), .val (.ref x6), .val (.int md), .unset] [(.int (if own_ds (p1 >>> ((8 : Int32) &&& 31)) cu cv = own_ds (p2 >>> ((8 : Int32) &&& 31)) cu cv then (1 : Int32) else 0))])) _
                refine XS.ifNo X262.here hx rfl (hb hby at_208) rfl ((if0 _ _).trans (feq (by rw [if_pos hA2]; decide)).1) ?_
                show Steps p.tables e below (T262.setTop (mkF m 211 #[.val (.int p1), .val (.int p2), .val (.int p3), .val (.int p4), .val (.int p5), .val (.int cu), .val (.int cv), .val (.ref da), .val (.ref db), .val (.ref x6), .val (.int md), .unset] [])) _
                refine XS.iconst X262.here hx rfl (hb hby at_211) ?_
                show Steps p.tables e below (T262.setTop (mkF m 212 #[.val (.int p1), .val (.int p2), .val (.int p3), .val (.int p4), .val (.int p5), .val (.int cu), .val (.int cv), .val (.ref da), .val (.ref db), .val (.ref x6), .val (.int md), .unset] [(.int (1 : Int32))])) _
                refine XS.goto X262.here hx rfl (pc0 := 212) (pc' := 216) rfl (hb hby at_212) (by decide) (by decide) ?_
                show Steps p.tables e below (T262.setTop (mkF m 216 #[.val (.int p1), .val (.int p2), .val (.int p3), .val (.int p4), .val (.int p5), .val (.int cu), .val (.int cv), .val (.ref da), .val (.ref db), .val (.ref x6), .val (.int md), .unset] [(.int (1 : Int32))])) _
                refine XS.istore X262.here hx rfl (hb hby at_216) rfl (l' := #[.val (.int p1), .val (.int p2), .val (.int p3), .val (.int p4), .val (.int p5), .val (.int cu), .val (.int cv), .val (.ref da), .val (.ref db), .val (.ref x6), .val (.int md), .val (.int (1 : Int32))]) rfl ?_
                show Steps p.tables e below (T262.setTop (mkF m 218 #[.val (.int p1), .val (.int p2), .val (.int p3), .val (.int p4), .val (.int p5), .val (.int cu), .val (.int cv), .val (.ref da), .val (.ref db), .val (.ref x6), .val (.int md), .val (.int (1 : Int32))] [])) _
                refine XS.aload X262.here hx rfl (hb hby at_218) rfl rfl ?_
                show Steps p.tables e below (T262.setTop (mkF m 220 #[.val (.int p1), .val (.int p2), .val (.int p3), .val (.int p4), .val (.int p5), .val (.int cu), .val (.int cv), .val (.ref da), .val (.ref db), .val (.ref x6), .val (.int md), .val (.int (1 : Int32))] [(.ref da)])) _
                refine XS.aload X262.here hx rfl (hb hby at_220) rfl rfl ?_
                show Steps p.tables e below (T262.setTop (mkF m 222 #[.val (.int p1), .val (.int p2), .val (.int p3), .val (.int p4), .val (.int p5), .val (.int cu), .val (.int cv), .val (.ref da), .val (.ref db), .val (.ref x6), .val (.int md), .val (.int (1 : Int32))] [(.ref db), (.ref da)])) _
                refine st264.trans ?_
                show Steps p.tables e below (T264.setTop (mkF m 225 #[.val (.int p1), .val (.int p2), .val (.int p3), .val (.int p4), .val (.int p5), .val (.int cu), .val (.int cv), .val (.ref da), .val (.ref db), .val (.ref x6), .val (.int md), .val (.int (1 : Int32))] [(.int (own_deq (own_ds p1 cu cv) (own_ds (p1 >>> ((4 : Int32) &&& 31)) cu cv) (own_ds (p1 >>> ((8 : Int32) &&& 31)) cu cv) (own_ds p2 cu cv) (own_ds (p2 >>> ((4 : Int32) &&& 31)) cu cv) (own_ds (p2 >>> ((8 : Int32) &&& 31)) cu cv)))])) _
                refine XS.iload X264.here hx rfl (hb hby at_225) rfl ?_
                show Steps p.tables e below (T264.setTop (mkF m 227 #[.val (.int p1), .val (.int p2), .val (.int p3), .val (.int p4), .val (.int p5), .val (.int cu), .val (.int cv), .val (.ref da), .val (.ref db), .val (.ref x6), .val (.int md), .val (.int (1 : Int32))] [(.int (1 : Int32)), (.int (own_deq (own_ds p1 cu cv) (own_ds (p1 >>> ((4 : Int32) &&& 31)) cu cv) (own_ds (p1 >>> ((8 : Int32) &&& 31)) cu cv) (own_ds p2 cu cv) (own_ds (p2 >>> ((4 : Int32) &&& 31)) cu cv) (own_ds (p2 >>> ((8 : Int32) &&& 31)) cu cv)))])) _
                refine XS.icmpNo X264.here hx rfl (hb hby at_227) rfl (teq (by rw [own_deq, if_pos hA0, if_pos hA1, if_pos hA2])).2 ?_
                show Steps p.tables e below (T264.setTop (mkF m 230 #[.val (.int p1), .val (.int p2), .val (.int p3), .val (.int p4), .val (.int p5), .val (.int cu), .val (.int cv), .val (.ref da), .val (.ref db), .val (.ref x6), .val (.int md), .val (.int (1 : Int32))] [])) _
                refine XS.aload X264.here hx rfl (hb hby at_230) rfl rfl ?_
                show Steps p.tables e below (T264.setTop (mkF m 232 #[.val (.int p1), .val (.int p2), .val (.int p3), .val (.int p4), .val (.int p5), .val (.int cu), .val (.int cv), .val (.ref da), .val (.ref db), .val (.ref x6), .val (.int md), .val (.int (1 : Int32))] [(.ref db)])) _
                refine XS.aload X264.here hx rfl (hb hby at_232) rfl rfl ?_
                show Steps p.tables e below (T264.setTop (mkF m 234 #[.val (.int p1), .val (.int p2), .val (.int p3), .val (.int p4), .val (.int p5), .val (.int cu), .val (.int cv), .val (.ref da), .val (.ref db), .val (.ref x6), .val (.int md), .val (.int (1 : Int32))] [(.ref da), (.ref db)])) _
                refine st265.trans ?_
                show Steps p.tables e below (T265.setTop (mkF m 237 #[.val (.int p1), .val (.int p2), .val (.int p3), .val (.int p4), .val (.int p5), .val (.int cu), .val (.int cv), .val (.ref da), .val (.ref db), .val (.ref x6), .val (.int md), .val (.int (1 : Int32))] [(.int (own_deq (own_ds p2 cu cv) (own_ds (p2 >>> ((4 : Int32) &&& 31)) cu cv) (own_ds (p2 >>> ((8 : Int32) &&& 31)) cu cv) (own_ds p1 cu cv) (own_ds (p1 >>> ((4 : Int32) &&& 31)) cu cv) (own_ds (p1 >>> ((8 : Int32) &&& 31)) cu cv)))])) _
                refine XS.iload X265.here hx rfl (hb hby at_237) rfl ?_
                show Steps p.tables e below (T265.setTop (mkF m 239 #[.val (.int p1), .val (.int p2), .val (.int p3), .val (.int p4), .val (.int p5), .val (.int cu), .val (.int cv), .val (.ref da), .val (.ref db), .val (.ref x6), .val (.int md), .val (.int (1 : Int32))] [(.int (1 : Int32)), (.int (own_deq (own_ds p2 cu cv) (own_ds (p2 >>> ((4 : Int32) &&& 31)) cu cv) (own_ds (p2 >>> ((8 : Int32) &&& 31)) cu cv) (own_ds p1 cu cv) (own_ds (p1 >>> ((4 : Int32) &&& 31)) cu cv) (own_ds (p1 >>> ((8 : Int32) &&& 31)) cu cv)))])) _
                refine XS.icmpNo X265.here hx rfl (hb hby at_239) rfl (teq ((own_deqc _ _ _ _ _ _).trans (by rw [own_deq, if_pos hA0, if_pos hA1, if_pos hA2]))).2 ?_
                show Steps p.tables e below (T265.setTop (mkF m 242 #[.val (.int p1), .val (.int p2), .val (.int p3), .val (.int p4), .val (.int p5), .val (.int cu), .val (.int cv), .val (.ref da), .val (.ref db), .val (.ref x6), .val (.int md), .val (.int (1 : Int32))] [])) _
                refine XS.iconst X265.here hx rfl (hb hby at_242) ?_
                show Steps p.tables e below (T265.setTop (mkF m 243 #[.val (.int p1), .val (.int p2), .val (.int p3), .val (.int p4), .val (.int p5), .val (.int cu), .val (.int cv), .val (.ref da), .val (.ref db), .val (.ref x6), .val (.int md), .val (.int (1 : Int32))] [(.int (1 : Int32))])) _
                refine XS.goto X265.here hx rfl (pc0 := 243) (pc' := 247) rfl (hb hby at_243) (by decide) (by decide) ?_
                exact k_)
              obtain ⟨fs, hr, hrun, hended, hWr, hW1, hW2, hsame⟩ := Jvm.Stand.leaveW (s := s) X265 hS228' (by rw [e265]; exact (Nat.le_refl _)) (v := some (.int (1 : Int32))) (fun h => by rw [Bd.returns] at h; cases h)
              refine ⟨_, _, pre266 _ ?_, hrun, hended, _, _, rfl, ?_, hWr, hW1, hW2, hsame.mono (by decide) (by decide)⟩
              · show Steps p.tables e below (T265.setTop (mkF m 247 #[.val (.int p1), .val (.int p2), .val (.int p3), .val (.int p4), .val (.int p5), .val (.int cu), .val (.int cv), .val (.ref da), .val (.ref db), .val (.ref x6), .val (.int md), .val (.int (1 : Int32))] [(.int (1 : Int32))])) _
                exact retN X265 hx (t := .boolean) Bd.returns (by simp) (hb hby at_247) hr
              · show Qrm0 Z p1 p2 p3 p4 p5 zc h0 n0 _ T265.heap _
                rw [e265]
                exact ⟨rfl, N265⟩
            · skip
              obtain ⟨cq267, kq267, q267a, q267b, q267c⟩ := isOf hZ228 e262 E_da_237
              obtain ⟨_, _, ⟨T267, L267, k267, n267⟩, -, X267, ⟨Lc267, hQ267, l267, y267, z267⟩, st267⟩ := X262.virtualBack hx (y := (⟨"com/example/cranfield/cranfield/model/Document", "equals", "(Ljava/lang/Object;)Z"⟩ : MethodName)) (z := (⟨"com/example/cranfield/cranfield/model/Document", "equals", "(Ljava/lang/Object;)Z"⟩ : MethodName)) hown228 (mvT hZ228 (hw _ (List.mem_of_getElem? (i := 56) rfl))) (mvT hZ228 (hw _ (List.mem_of_getElem? (i := 57) rfl))) (notFace_of_selects (args := #[]) (mvT hZ228 (hw _ (List.mem_of_getElem? (i := 59) rfl)))) (mvT hZ228 (hw _ (List.mem_of_getElem? (i := 59) rfl))) (mvT hZ228 (hw _ (List.mem_of_getElem? (i := 58) rfl))) (by decide) (backOf (W := 0) (rmE2 l Z a0 hw [] da db x0 x1 x2 x3 x4 x5 (own_ds p1 cu cv) (own_ds (p1 >>> ((4 : Int32) &&& 31)) cu cv) (own_ds (p1 >>> ((8 : Int32) &&& 31)) cu cv) (own_ds p2 cu cv) (own_ds (p2 >>> ((4 : Int32) &&& 31)) cu cv) (own_ds (p2 >>> ((8 : Int32) &&& 31)) cu cv) zc T228.heap n0 Z246 E_db_242 F0_da_238 F1_da_239 F2_da_240 F0_db_243 F1_db_244 F2_db_245 T_230 T_231 T_232 T_233 T_234 T_235 (S_c.ext O_247.2) hzc) hZ228 (hw _ (List.mem_of_getElem? (i := 60) rfl)) (hw _ (List.mem_of_getElem? (i := 2) rfl)) (by decide) (by decide)) q267a q267c (g := (mkF m 222 #[.val (.int p1), .val (.int p2), .val (.int p3), .val (.int p4), .val (.int p5), .val (.int cu), .val (.int cv), .val (.ref da), .val (.ref db), .val (.ref x6), .val (.int md), .val (.int (0 : Int32))] [(.ref db), (.ref da)])) rfl (by rw [hml]; rfl) (Steps.refl _) (argsL := [(.ref db)]) (rest := []) (lenOf pd_5 rfl) rfl (by show 2 * 0 + _ ≤ _; exact Nat.le_of_eq rfl) (hb hby at_222) (fun _ _ => ⟨rfl, e262, (by decide : 56 + 0 ≤ _), (by decide : 226 + 0 ≤ _)⟩)
              dsimp only [Pt.U, Pt.locs, Pt.cells, Pt.slots] at X267 l267 y267 z267 st267 hQ267
              subst l267 y267 z267
              obtain ⟨rfl, N267q, e267⟩ := hQ267
              have N267 := Fr.app N262 N267q
              obtain ⟨cq268, kq268, q268a, q268b, q268c⟩ := isOf hZ228 e267 E_db_242
              obtain ⟨_, _, ⟨T268, L268, k268, n268⟩, -, X268, ⟨Lc268, hQ268, l268, y268, z268⟩, st268⟩ := X267.virtualBack hx (y := (⟨"com/example/cranfield/cranfield/model/Document", "equals", "(Ljava/lang/Object;)Z"⟩ : MethodName)) (z := (⟨"com/example/cranfield/cranfield/model/Document", "equals", "(Ljava/lang/Object;)Z"⟩ : MethodName)) hown228 (mvT hZ228 (hw _ (List.mem_of_getElem? (i := 56) rfl))) (mvT hZ228 (hw _ (List.mem_of_getElem? (i := 57) rfl))) (notFace_of_selects (args := #[]) (mvT hZ228 (hw _ (List.mem_of_getElem? (i := 59) rfl)))) (mvT hZ228 (hw _ (List.mem_of_getElem? (i := 59) rfl))) (mvT hZ228 (hw _ (List.mem_of_getElem? (i := 58) rfl))) (by decide) (backOf (W := 0) (rmE2 l Z a0 hw [] db da x3 x4 x5 x0 x1 x2 (own_ds p2 cu cv) (own_ds (p2 >>> ((4 : Int32) &&& 31)) cu cv) (own_ds (p2 >>> ((8 : Int32) &&& 31)) cu cv) (own_ds p1 cu cv) (own_ds (p1 >>> ((4 : Int32) &&& 31)) cu cv) (own_ds (p1 >>> ((8 : Int32) &&& 31)) cu cv) zc T228.heap n0 Z246 E_da_237 F0_db_243 F1_db_244 F2_db_245 F0_da_238 F1_da_239 F2_da_240 T_233 T_234 T_235 T_230 T_231 T_232 (S_c.ext O_247.2) hzc) hZ228 (hw _ (List.mem_of_getElem? (i := 60) rfl)) (hw _ (List.mem_of_getElem? (i := 2) rfl)) (by decide) (by decide)) q268a q268c (g := (mkF m 234 #[.val (.int p1), .val (.int p2), .val (.int p3), .val (.int p4), .val (.int p5), .val (.int cu), .val (.int cv), .val (.ref da), .val (.ref db), .val (.ref x6), .val (.int md), .val (.int (0 : Int32))] [(.ref da), (.ref db)])) rfl (by rw [hml]; rfl) (Steps.refl _) (argsL := [(.ref da)]) (rest := []) (lenOf pd_5 rfl) rfl (by show 2 * 0 + _ ≤ _; exact Nat.le_of_eq rfl) (hb hby at_234) (fun _ _ => ⟨rfl, e267, (by decide : 56 + 0 ≤ _), (by decide : 226 + 0 ≤ _)⟩)
              dsimp only [Pt.U, Pt.locs, Pt.cells, Pt.slots] at X268 l268 y268 z268 st268 hQ268
              subst l268 y268 z268
              obtain ⟨rfl, N268q, e268⟩ := hQ268
              have N268 := Fr.app N267 N268q
              have pre269 : ∀ t_, Steps p.tables e below (T268.setTop (mkF m 247 #[.val (.int p1), .val (.int p2), .val (.int p3), .val (.int p4), .val (.int p5), .val (.int cu), .val (.int cv), .val (.ref da), .val (.ref db), .val (.ref x6), .val (.int md), .val (.int (0 : Int32))] [(.int (1 : Int32))])) t_ → Steps p.tables e below (s₁.setTop (entryFrame m #[(.int p1), (.int p2), (.int p3), (.int p4), (.int p5)] maxLocals)) t_ := fun t_ k_ => pre263 _ (by
                show Steps p.tables e below (T262.setTop (mkF m 208 #[.val (.int p1), .val (.int p2), .val (.int p3), .val (.int p4), .val (.int p5), .val (.int cu), .val (.int cv), .val (.ref da), .val (.ref db), .val (.ref x6), .val (.int md), .unset] [(.int (if own_ds (p1 >>> ((8 : Int32) &&& 31)) cu cv = own_ds (p2 >>> ((8 : Int32) &&& 31)) cu cv then (1 : Int32) else 0))])) _
                refine XS.ifYes X262.here hx rfl (pc0 := 208) (pc' := 215) rfl (hb hby at_208) rfl ((if0 _ _).trans (teq (by rw [if_neg hA2])).1) (by decide) (by decide) ?_
                show Steps p.tables e below (T262.setTop (mkF m 215 #[.val (.int p1), .val (.int p2), .val (.int p3), .val (.int p4), .val (.int p5), .val (.int cu), .val (.int cv), .val (.ref da), .val (.ref db), .val (.ref x6), .val (.int md), .unset] [])) _
                refine XS.iconst X262.here hx rfl (hb hby at_215) ?_
                show Steps p.tables e below (T262.setTop (mkF m 216 #[.val (.int p1), .val (.int p2), .val (.int p3), .val (.int p4), .val (.int p5), .val (.int cu), .val (.int cv), .val (.ref da), .val (.ref db), .val (.ref x6), .val (.int md), .unset] [(.int (0 : Int32))])) _
                refine XS.istore X262.here hx rfl (hb hby at_216) rfl (l' := #[.val (.int p1), .val (.int p2), .val (.int p3), .val (.int p4), .val (.int p5), .val (.int cu), .val (.int cv), .val (.ref da), .val (.ref db), .val (.ref x6), .val (.int md), .val (.int (0 : Int32))]) rfl ?_
                show Steps p.tables e below (T262.setTop (mkF m 218 #[.val (.int p1), .val (.int p2), .val (.int p3), .val (.int p4), .val (.int p5), .val (.int cu), .val (.int cv), .val (.ref da), .val (.ref db), .val (.ref x6), .val (.int md), .val (.int (0 : Int32))] [])) _
                refine XS.aload X262.here hx rfl (hb hby at_218) rfl rfl ?_
                show Steps p.tables e below (T262.setTop (mkF m 220 #[.val (.int p1), .val (.int p2), .val (.int p3), .val (.int p4), .val (.int p5), .val (.int cu), .val (.int cv), .val (.ref da), .val (.ref db), .val (.ref x6), .val (.int md), .val (.int (0 : Int32))] [(.ref da)])) _
                refine XS.aload X262.here hx rfl (hb hby at_220) rfl rfl ?_
                show Steps p.tables e below (T262.setTop (mkF m 222 #[.val (.int p1), .val (.int p2), .val (.int p3), .val (.int p4), .val (.int p5), .val (.int cu), .val (.int cv), .val (.ref da), .val (.ref db), .val (.ref x6), .val (.int md), .val (.int (0 : Int32))] [(.ref db), (.ref da)])) _
                refine st267.trans ?_
                show Steps p.tables e below (T267.setTop (mkF m 225 #[.val (.int p1), .val (.int p2), .val (.int p3), .val (.int p4), .val (.int p5), .val (.int cu), .val (.int cv), .val (.ref da), .val (.ref db), .val (.ref x6), .val (.int md), .val (.int (0 : Int32))] [(.int (own_deq (own_ds p1 cu cv) (own_ds (p1 >>> ((4 : Int32) &&& 31)) cu cv) (own_ds (p1 >>> ((8 : Int32) &&& 31)) cu cv) (own_ds p2 cu cv) (own_ds (p2 >>> ((4 : Int32) &&& 31)) cu cv) (own_ds (p2 >>> ((8 : Int32) &&& 31)) cu cv)))])) _
                refine XS.iload X267.here hx rfl (hb hby at_225) rfl ?_
                show Steps p.tables e below (T267.setTop (mkF m 227 #[.val (.int p1), .val (.int p2), .val (.int p3), .val (.int p4), .val (.int p5), .val (.int cu), .val (.int cv), .val (.ref da), .val (.ref db), .val (.ref x6), .val (.int md), .val (.int (0 : Int32))] [(.int (0 : Int32)), (.int (own_deq (own_ds p1 cu cv) (own_ds (p1 >>> ((4 : Int32) &&& 31)) cu cv) (own_ds (p1 >>> ((8 : Int32) &&& 31)) cu cv) (own_ds p2 cu cv) (own_ds (p2 >>> ((4 : Int32) &&& 31)) cu cv) (own_ds (p2 >>> ((8 : Int32) &&& 31)) cu cv)))])) _
                refine XS.icmpNo X267.here hx rfl (hb hby at_227) rfl (teq (by rw [own_deq, if_pos hA0, if_pos hA1, if_neg hA2])).2 ?_
                show Steps p.tables e below (T267.setTop (mkF m 230 #[.val (.int p1), .val (.int p2), .val (.int p3), .val (.int p4), .val (.int p5), .val (.int cu), .val (.int cv), .val (.ref da), .val (.ref db), .val (.ref x6), .val (.int md), .val (.int (0 : Int32))] [])) _
                refine XS.aload X267.here hx rfl (hb hby at_230) rfl rfl ?_
                show Steps p.tables e below (T267.setTop (mkF m 232 #[.val (.int p1), .val (.int p2), .val (.int p3), .val (.int p4), .val (.int p5), .val (.int cu), .val (.int cv), .val (.ref da), .val (.ref db), .val (.ref x6), .val (.int md), .val (.int (0 : Int32))] [(.ref db)])) _
                refine XS.aload X267.here hx rfl (hb hby at_232) rfl rfl ?_
                show Steps p.tables e below (T267.setTop (mkF m 234 #[.val (.int p1), .val (.int p2), .val (.int p3), .val (.int p4), .val (.int p5), .val (.int cu), .val (.int cv), .val (.ref da), .val (.ref db), .val (.ref x6), .val (.int md), .val (.int (0 : Int32))] [(.ref da), (.ref db)])) _
                refine st268.trans ?_
                show Steps p.tables e below (T268.setTop (mkF m 237 #[.val (.int p1), .val (.int p2), .val (.int p3), .val (.int p4), .val (.int p5), .val (.int cu), .val (.int cv), .val (.ref da), .val (.ref db), .val (.ref x6), .val (.int md), .val (.int (0 : Int32))] [(.int (own_deq (own_ds p2 cu cv) (own_ds (p2 >>> ((4 : Int32) &&& 31)) cu cv) (own_ds (p2 >>> ((8 : Int32) &&& 31)) cu cv) (own_ds p1 cu cv) (own_ds (p1 >>> ((4 : Int32) &&& 31)) cu cv) (own_ds (p1 >>> ((8 : Int32) &&& 31)) cu cv)))])) _
                refine XS.iload X268.here hx rfl (hb hby at_237) rfl ?_
                show Steps p.tables e below (T268.setTop (mkF m 239 #[.val (.int p1), .val (.int p2), .val (.int p3), .val (.int p4), .val (.int p5), .val (.int cu), .val (.int cv), .val (.ref da), .val (.ref db), .val (.ref x6), .val (.int md), .val (.int (0 : Int32))] [(.int (0 : Int32)), (.int (own_deq (own_ds p2 cu cv) (own_ds (p2 >>> ((4 : Int32) &&& 31)) cu cv) (own_ds (p2 >>> ((8 : Int32) &&& 31)) cu cv) (own_ds p1 cu cv) (own_ds (p1 >>> ((4 : Int32) &&& 31)) cu cv) (own_ds (p1 >>> ((8 : Int32) &&& 31)) cu cv)))])) _
                refine XS.icmpNo X268.here hx rfl (hb hby at_239) rfl (teq ((own_deqc _ _ _ _ _ _).trans (by rw [own_deq, if_pos hA0, if_pos hA1, if_neg hA2]))).2 ?_
                show Steps p.tables e below (T268.setTop (mkF m 242 #[.val (.int p1), .val (.int p2), .val (.int p3), .val (.int p4), .val (.int p5), .val (.int cu), .val (.int cv), .val (.ref da), .val (.ref db), .val (.ref x6), .val (.int md), .val (.int (0 : Int32))] [])) _
                refine XS.iconst X268.here hx rfl (hb hby at_242) ?_
                show Steps p.tables e below (T268.setTop (mkF m 243 #[.val (.int p1), .val (.int p2), .val (.int p3), .val (.int p4), .val (.int p5), .val (.int cu), .val (.int cv), .val (.ref da), .val (.ref db), .val (.ref x6), .val (.int md), .val (.int (0 : Int32))] [(.int (1 : Int32))])) _
                refine XS.goto X268.here hx rfl (pc0 := 243) (pc' := 247) rfl (hb hby at_243) (by decide) (by decide) ?_
                exact k_)
              obtain ⟨fs, hr, hrun, hended, hWr, hW1, hW2, hsame⟩ := Jvm.Stand.leaveW (s := s) X268 hS228' (by rw [e268]; exact (Nat.le_refl _)) (v := some (.int (1 : Int32))) (fun h => by rw [Bd.returns] at h; cases h)
              refine ⟨_, _, pre269 _ ?_, hrun, hended, _, _, rfl, ?_, hWr, hW1, hW2, hsame.mono (by decide) (by decide)⟩
              · show Steps p.tables e below (T268.setTop (mkF m 247 #[.val (.int p1), .val (.int p2), .val (.int p3), .val (.int p4), .val (.int p5), .val (.int cu), .val (.int cv), .val (.ref da), .val (.ref db), .val (.ref x6), .val (.int md), .val (.int (0 : Int32))] [(.int (1 : Int32))])) _
                exact retN X268 hx (t := .boolean) Bd.returns (by simp) (hb hby at_247) hr
              · show Qrm0 Z p1 p2 p3 p4 p5 zc h0 n0 _ T268.heap _
                rw [e268]
                exact ⟨rfl, N268⟩
          · skip
            obtain ⟨cq270, kq270, q270a, q270b, q270c⟩ := isOf hZ228 e260 E_da_237
            obtain ⟨_, _, ⟨T270, L270, k270, n270⟩, -, X270, ⟨Lc270, hQ270, l270, y270, z270⟩, st270⟩ := X260.virtualBack hx (y := (⟨"com/example/cranfield/cranfield/model/Document", "equals", "(Ljava/lang/Object;)Z"⟩ : MethodName)) (z := (⟨"com/example/cranfield/cranfield/model/Document", "equals", "(Ljava/lang/Object;)Z"⟩ : MethodName)) hown228 (mvT hZ228 (hw _ (List.mem_of_getElem? (i := 56) rfl))) (mvT hZ228 (hw _ (List.mem_of_getElem? (i := 57) rfl))) (notFace_of_selects (args := #[]) (mvT hZ228 (hw _ (List.mem_of_getElem? (i := 59) rfl)))) (mvT hZ228 (hw _ (List.mem_of_getElem? (i := 59) rfl))) (mvT hZ228 (hw _ (List.mem_of_getElem? (i := 58) rfl))) (by decide) (backOf (W := 0) (rmE2 l Z a0 hw [] da db x0 x1 x2 x3 x4 x5 (own_ds p1 cu cv) (own_ds (p1 >>> ((4 : Int32) &&& 31)) cu cv) (own_ds (p1 >>> ((8 : Int32) &&& 31)) cu cv) (own_ds p2 cu cv) (own_ds (p2 >>> ((4 : Int32) &&& 31)) cu cv) (own_ds (p2 >>> ((8 : Int32) &&& 31)) cu cv) zc T228.heap n0 Z246 E_db_242 F0_da_238 F1_da_239 F2_da_240 F0_db_243 F1_db_244 F2_db_245 T_230 T_231 T_232 T_233 T_234 T_235 (S_c.ext O_247.2) hzc) hZ228 (hw _ (List.mem_of_getElem? (i := 60) rfl)) (hw _ (List.mem_of_getElem? (i := 2) rfl)) (by decide) (by decide)) q270a q270c (g := (mkF m 222 #[.val (.int p1), .val (.int p2), .val (.int p3), .val (.int p4), .val (.int p5), .val (.int cu), .val (.int cv), .val (.ref da), .val (.ref db), .val (.ref x6), .val (.int md), .val (.int (0 : Int32))] [(.ref db), (.ref da)])) rfl (by rw [hml]; rfl) (Steps.refl _) (argsL := [(.ref db)]) (rest := []) (lenOf pd_5 rfl) rfl (by show 2 * 0 + _ ≤ _; exact Nat.le_of_eq rfl) (hb hby at_222) (fun _ _ => ⟨rfl, e260, (by decide : 56 + 0 ≤ _), (by decide : 226 + 0 ≤ _)⟩)
            dsimp only [Pt.U, Pt.locs, Pt.cells, Pt.slots] at X270 l270 y270 z270 st270 hQ270
            subst l270 y270 z270
            obtain ⟨rfl, N270q, e270⟩ := hQ270
            have N270 := Fr.app N260 N270q
            obtain ⟨cq271, kq271, q271a, q271b, q271c⟩ := isOf hZ228 e270 E_db_242
            obtain ⟨_, _, ⟨T271, L271, k271, n271⟩, -, X271, ⟨Lc271, hQ271, l271, y271, z271⟩, st271⟩ := X270.virtualBack hx (y := (⟨"com/example/cranfield/cranfield/model/Document", "equals", "(Ljava/lang/Object;)Z"⟩ : MethodName)) (z := (⟨"com/example/cranfield/cranfield/model/Document", "equals", "(Ljava/lang/Object;)Z"⟩ : MethodName)) hown228 (mvT hZ228 (hw _ (List.mem_of_getElem? (i := 56) rfl))) (mvT hZ228 (hw _ (List.mem_of_getElem? (i := 57) rfl))) (notFace_of_selects (args := #[]) (mvT hZ228 (hw _ (List.mem_of_getElem? (i := 59) rfl)))) (mvT hZ228 (hw _ (List.mem_of_getElem? (i := 59) rfl))) (mvT hZ228 (hw _ (List.mem_of_getElem? (i := 58) rfl))) (by decide) (backOf (W := 0) (rmE2 l Z a0 hw [] db da x3 x4 x5 x0 x1 x2 (own_ds p2 cu cv) (own_ds (p2 >>> ((4 : Int32) &&& 31)) cu cv) (own_ds (p2 >>> ((8 : Int32) &&& 31)) cu cv) (own_ds p1 cu cv) (own_ds (p1 >>> ((4 : Int32) &&& 31)) cu cv) (own_ds (p1 >>> ((8 : Int32) &&& 31)) cu cv) zc T228.heap n0 Z246 E_da_237 F0_db_243 F1_db_244 F2_db_245 F0_da_238 F1_da_239 F2_da_240 T_233 T_234 T_235 T_230 T_231 T_232 (S_c.ext O_247.2) hzc) hZ228 (hw _ (List.mem_of_getElem? (i := 60) rfl)) (hw _ (List.mem_of_getElem? (i := 2) rfl)) (by decide) (by decide)) q271a q271c (g := (mkF m 234 #[.val (.int p1), .val (.int p2), .val (.int p3), .val (.int p4), .val (.int p5), .val (.int cu), .val (.int cv), .val (.ref da), .val (.ref db), .val (.ref x6), .val (.int md), .val (.int (0 : Int32))] [(.ref da), (.ref db)])) rfl (by rw [hml]; rfl) (Steps.refl _) (argsL := [(.ref da)]) (rest := []) (lenOf pd_5 rfl) rfl (by show 2 * 0 + _ ≤ _; exact Nat.le_of_eq rfl) (hb hby at_234) (fun _ _ => ⟨rfl, e270, (by decide : 56 + 0 ≤ _), (by decide : 226 + 0 ≤ _)⟩)
            dsimp only [Pt.U, Pt.locs, Pt.cells, Pt.slots] at X271 l271 y271 z271 st271 hQ271
            subst l271 y271 z271
            obtain ⟨rfl, N271q, e271⟩ := hQ271
            have N271 := Fr.app N270 N271q
            have pre272 : ∀ t_, Steps p.tables e below (T271.setTop (mkF m 247 #[.val (.int p1), .val (.int p2), .val (.int p3), .val (.int p4), .val (.int p5), .val (.int cu), .val (.int cv), .val (.ref da), .val (.ref db), .val (.ref x6), .val (.int md), .val (.int (0 : Int32))] [(.int (1 : Int32))])) t_ → Steps p.tables e below (s₁.setTop (entryFrame m #[(.int p1), (.int p2), (.int p3), (.int p4), (.int p5)] maxLocals)) t_ := fun t_ k_ => pre261 _ (by
              show Steps p.tables e below (T260.setTop (mkF m 190 #[.val (.int p1), .val (.int p2), .val (.int p3), .val (.int p4), .val (.int p5), .val (.int cu), .val (.int cv), .val (.ref da), .val (.ref db), .val (.ref x6), .val (.int md), .unset] [(.int (if own_ds (p1 >>> ((4 : Int32) &&& 31)) cu cv = own_ds (p2 >>> ((4 : Int32) &&& 31)) cu cv then (1 : Int32) else 0))])) _
              refine XS.ifYes X260.here hx rfl (pc0 := 190) (pc' := 215) rfl (hb hby at_190) rfl ((if0 _ _).trans (teq (by rw [if_neg hA1])).1) (by decide) (by decide) ?_
              show Steps p.tables e below (T260.setTop (mkF m 215 #[.val (.int p1), .val (.int p2), .val (.int p3), .val (.int p4), .val (.int p5), .val (.int cu), .val (.int cv), .val (.ref da), .val (.ref db), .val (.ref x6), .val (.int md), .unset] [])) _
              refine XS.iconst X260.here hx rfl (hb hby at_215) ?_
              show Steps p.tables e below (T260.setTop (mkF m 216 #[.val (.int p1), .val (.int p2), .val (.int p3), .val (.int p4), .val (.int p5), .val (.int cu), .val (.int cv), .val (.ref da), .val (.ref db), .val (.ref x6), .val (.int md), .unset] [(.int (0 : Int32))])) _
              refine XS.istore X260.here hx rfl (hb hby at_216) rfl (l' := #[.val (.int p1), .val (.int p2), .val (.int p3), .val (.int p4), .val (.int p5), .val (.int cu), .val (.int cv), .val (.ref da), .val (.ref db), .val (.ref x6), .val (.int md), .val (.int (0 : Int32))]) rfl ?_
              show Steps p.tables e below (T260.setTop (mkF m 218 #[.val (.int p1), .val (.int p2), .val (.int p3), .val (.int p4), .val (.int p5), .val (.int cu), .val (.int cv), .val (.ref da), .val (.ref db), .val (.ref x6), .val (.int md), .val (.int (0 : Int32))] [])) _
              refine XS.aload X260.here hx rfl (hb hby at_218) rfl rfl ?_
              show Steps p.tables e below (T260.setTop (mkF m 220 #[.val (.int p1), .val (.int p2), .val (.int p3), .val (.int p4), .val (.int p5), .val (.int cu), .val (.int cv), .val (.ref da), .val (.ref db), .val (.ref x6), .val (.int md), .val (.int (0 : Int32))] [(.ref da)])) _
              refine XS.aload X260.here hx rfl (hb hby at_220) rfl rfl ?_
              show Steps p.tables e below (T260.setTop (mkF m 222 #[.val (.int p1), .val (.int p2), .val (.int p3), .val (.int p4), .val (.int p5), .val (.int cu), .val (.int cv), .val (.ref da), .val (.ref db), .val (.ref x6), .val (.int md), .val (.int (0 : Int32))] [(.ref db), (.ref da)])) _
              refine st270.trans ?_
              show Steps p.tables e below (T270.setTop (mkF m 225 #[.val (.int p1), .val (.int p2), .val (.int p3), .val (.int p4), .val (.int p5), .val (.int cu), .val (.int cv), .val (.ref da), .val (.ref db), .val (.ref x6), .val (.int md), .val (.int (0 : Int32))] [(.int (own_deq (own_ds p1 cu cv) (own_ds (p1 >>> ((4 : Int32) &&& 31)) cu cv) (own_ds (p1 >>> ((8 : Int32) &&& 31)) cu cv) (own_ds p2 cu cv) (own_ds (p2 >>> ((4 : Int32) &&& 31)) cu cv) (own_ds (p2 >>> ((8 : Int32) &&& 31)) cu cv)))])) _
              refine XS.iload X270.here hx rfl (hb hby at_225) rfl ?_
              show Steps p.tables e below (T270.setTop (mkF m 227 #[.val (.int p1), .val (.int p2), .val (.int p3), .val (.int p4), .val (.int p5), .val (.int cu), .val (.int cv), .val (.ref da), .val (.ref db), .val (.ref x6), .val (.int md), .val (.int (0 : Int32))] [(.int (0 : Int32)), (.int (own_deq (own_ds p1 cu cv) (own_ds (p1 >>> ((4 : Int32) &&& 31)) cu cv) (own_ds (p1 >>> ((8 : Int32) &&& 31)) cu cv) (own_ds p2 cu cv) (own_ds (p2 >>> ((4 : Int32) &&& 31)) cu cv) (own_ds (p2 >>> ((8 : Int32) &&& 31)) cu cv)))])) _
              refine XS.icmpNo X270.here hx rfl (hb hby at_227) rfl (teq (by rw [own_deq, if_pos hA0, if_neg hA1])).2 ?_
              show Steps p.tables e below (T270.setTop (mkF m 230 #[.val (.int p1), .val (.int p2), .val (.int p3), .val (.int p4), .val (.int p5), .val (.int cu), .val (.int cv), .val (.ref da), .val (.ref db), .val (.ref x6), .val (.int md), .val (.int (0 : Int32))] [])) _
              refine XS.aload X270.here hx rfl (hb hby at_230) rfl rfl ?_
              show Steps p.tables e below (T270.setTop (mkF m 232 #[.val (.int p1), .val (.int p2), .val (.int p3), .val (.int p4), .val (.int p5), .val (.int cu), .val (.int cv), .val (.ref da), .val (.ref db), .val (.ref x6), .val (.int md), .val (.int (0 : Int32))] [(.ref db)])) _
              refine XS.aload X270.here hx rfl (hb hby at_232) rfl rfl ?_
              show Steps p.tables e below (T270.setTop (mkF m 234 #[.val (.int p1), .val (.int p2), .val (.int p3), .val (.int p4), .val (.int p5), .val (.int cu), .val (.int cv), .val (.ref da), .val (.ref db), .val (.ref x6), .val (.int md), .val (.int (0 : Int32))] [(.ref da), (.ref db)])) _
              refine st271.trans ?_
              show Steps p.tables e below (T271.setTop (mkF m 237 #[.val (.int p1), .val (.int p2), .val (.int p3), .val (.int p4), .val (.int p5), .val (.int cu), .val (.int cv), .val (.ref da), .val (.ref db), .val (.ref x6), .val (.int md), .val (.int (0 : Int32))] [(.int (own_deq (own_ds p2 cu cv) (own_ds (p2 >>> ((4 : Int32) &&& 31)) cu cv) (own_ds (p2 >>> ((8 : Int32) &&& 31)) cu cv) (own_ds p1 cu cv) (own_ds (p1 >>> ((4 : Int32) &&& 31)) cu cv) (own_ds (p1 >>> ((8 : Int32) &&& 31)) cu cv)))])) _
              refine XS.iload X271.here hx rfl (hb hby at_237) rfl ?_
              show Steps p.tables e below (T271.setTop (mkF m 239 #[.val (.int p1), .val (.int p2), .val (.int p3), .val (.int p4), .val (.int p5), .val (.int cu), .val (.int cv), .val (.ref da), .val (.ref db), .val (.ref x6), .val (.int md), .val (.int (0 : Int32))] [(.int (0 : Int32)), (.int (own_deq (own_ds p2 cu cv) (own_ds (p2 >>> ((4 : Int32) &&& 31)) cu cv) (own_ds (p2 >>> ((8 : Int32) &&& 31)) cu cv) (own_ds p1 cu cv) (own_ds (p1 >>> ((4 : Int32) &&& 31)) cu cv) (own_ds (p1 >>> ((8 : Int32) &&& 31)) cu cv)))])) _
              refine XS.icmpNo X271.here hx rfl (hb hby at_239) rfl (teq ((own_deqc _ _ _ _ _ _).trans (by rw [own_deq, if_pos hA0, if_neg hA1]))).2 ?_
              show Steps p.tables e below (T271.setTop (mkF m 242 #[.val (.int p1), .val (.int p2), .val (.int p3), .val (.int p4), .val (.int p5), .val (.int cu), .val (.int cv), .val (.ref da), .val (.ref db), .val (.ref x6), .val (.int md), .val (.int (0 : Int32))] [])) _
              refine XS.iconst X271.here hx rfl (hb hby at_242) ?_
              show Steps p.tables e below (T271.setTop (mkF m 243 #[.val (.int p1), .val (.int p2), .val (.int p3), .val (.int p4), .val (.int p5), .val (.int cu), .val (.int cv), .val (.ref da), .val (.ref db), .val (.ref x6), .val (.int md), .val (.int (0 : Int32))] [(.int (1 : Int32))])) _
              refine XS.goto X271.here hx rfl (pc0 := 243) (pc' := 247) rfl (hb hby at_243) (by decide) (by decide) ?_
              exact k_)
            obtain ⟨fs, hr, hrun, hended, hWr, hW1, hW2, hsame⟩ := Jvm.Stand.leaveW (s := s) X271 hS228' (by rw [e271]; exact (Nat.le_refl _)) (v := some (.int (1 : Int32))) (fun h => by rw [Bd.returns] at h; cases h)
            refine ⟨_, _, pre272 _ ?_, hrun, hended, _, _, rfl, ?_, hWr, hW1, hW2, hsame.mono (by decide) (by decide)⟩
            · show Steps p.tables e below (T271.setTop (mkF m 247 #[.val (.int p1), .val (.int p2), .val (.int p3), .val (.int p4), .val (.int p5), .val (.int cu), .val (.int cv), .val (.ref da), .val (.ref db), .val (.ref x6), .val (.int md), .val (.int (0 : Int32))] [(.int (1 : Int32))])) _
              exact retN X271 hx (t := .boolean) Bd.returns (by simp) (hb hby at_247) hr
            · show Qrm0 Z p1 p2 p3 p4 p5 zc h0 n0 _ T271.heap _
              rw [e271]
              exact ⟨rfl, N271⟩
        · skip
          obtain ⟨cq273, kq273, q273a, q273b, q273c⟩ := isOf hZ228 e258 E_da_237
          obtain ⟨_, _, ⟨T273, L273, k273, n273⟩, -, X273, ⟨Lc273, hQ273, l273, y273, z273⟩, st273⟩ := X258.virtualBack hx (y := (⟨"com/example/cranfield/cranfield/model/Document", "equals", "(Ljava/lang/Object;)Z"⟩ : MethodName)) (z := (⟨"com/example/cranfield/cranfield/model/Document", "equals", "(Ljava/lang/Object;)Z"⟩ : MethodName)) hown228 (mvT hZ228 (hw _ (List.mem_of_getElem? (i := 56) rfl))) (mvT hZ228 (hw _ (List.mem_of_getElem? (i := 57) rfl))) (notFace_of_selects (args := #[]) (mvT hZ228 (hw _ (List.mem_of_getElem? (i := 59) rfl)))) (mvT hZ228 (hw _ (List.mem_of_getElem? (i := 59) rfl))) (mvT hZ228 (hw _ (List.mem_of_getElem? (i := 58) rfl))) (by decide) (backOf (W := 0) (rmE2 l Z a0 hw [] da db x0 x1 x2 x3 x4 x5 (own_ds p1 cu cv) (own_ds (p1 >>> ((4 : Int32) &&& 31)) cu cv) (own_ds (p1 >>> ((8 : Int32) &&& 31)) cu cv) (own_ds p2 cu cv) (own_ds (p2 >>> ((4 : Int32) &&& 31)) cu cv) (own_ds (p2 >>> ((8 : Int32) &&& 31)) cu cv) zc T228.heap n0 Z246 E_db_242 F0_da_238 F1_da_239 F2_da_240 F0_db_243 F1_db_244 F2_db_245 T_230 T_231 T_232 T_233 T_234 T_235 (S_c.ext O_247.2) hzc) hZ228 (hw _ (List.mem_of_getElem? (i := 60) rfl)) (hw _ (List.mem_of_getElem? (i := 2) rfl)) (by decide) (by decide)) q273a q273c (g := (mkF m 222 #[.val (.int p1), .val (.int p2), .val (.int p3), .val (.int p4), .val (.int p5), .val (.int cu), .val (.int cv), .val (.ref da), .val (.ref db), .val (.ref x6), .val (.int md), .val (.int (0 : Int32))] [(.ref db), (.ref da)])) rfl (by rw [hml]; rfl) (Steps.refl _) (argsL := [(.ref db)]) (rest := []) (lenOf pd_5 rfl) rfl (by show 2 * 0 + _ ≤ _; exact Nat.le_of_eq rfl) (hb hby at_222) (fun _ _ => ⟨rfl, e258, (by decide : 56 + 0 ≤ _), (by decide : 226 + 0 ≤ _)⟩)
          dsimp only [Pt.U, Pt.locs, Pt.cells, Pt.slots] at X273 l273 y273 z273 st273 hQ273
          subst l273 y273 z273
          obtain ⟨rfl, N273q, e273⟩ := hQ273
          have N273 := Fr.app N258 N273q
          obtain ⟨cq274, kq274, q274a, q274b, q274c⟩ := isOf hZ228 e273 E_db_242
          obtain ⟨_, _, ⟨T274, L274, k274, n274⟩, -, X274, ⟨Lc274, hQ274, l274, y274, z274⟩, st274⟩ := X273.virtualBack hx (y := (⟨"com/example/cranfield/cranfield/model/Document", "equals", "(Ljava/lang/Object;)Z"⟩ : MethodName)) (z := (⟨"com/example/cranfield/cranfield/model/Document", "equals", "(Ljava/lang/Object;)Z"⟩ : MethodName)) hown228 (mvT hZ228 (hw _ (List.mem_of_getElem? (i := 56) rfl))) (mvT hZ228 (hw _ (List.mem_of_getElem? (i := 57) rfl))) (notFace_of_selects (args := #[]) (mvT hZ228 (hw _ (List.mem_of_getElem? (i := 59) rfl)))) (mvT hZ228 (hw _ (List.mem_of_getElem? (i := 59) rfl))) (mvT hZ228 (hw _ (List.mem_of_getElem? (i := 58) rfl))) (by decide) (backOf (W := 0) (rmE2 l Z a0 hw [] db da x3 x4 x5 x0 x1 x2 (own_ds p2 cu cv) (own_ds (p2 >>> ((4 : Int32) &&& 31)) cu cv) (own_ds (p2 >>> ((8 : Int32) &&& 31)) cu cv) (own_ds p1 cu cv) (own_ds (p1 >>> ((4 : Int32) &&& 31)) cu cv) (own_ds (p1 >>> ((8 : Int32) &&& 31)) cu cv) zc T228.heap n0 Z246 E_da_237 F0_db_243 F1_db_244 F2_db_245 F0_da_238 F1_da_239 F2_da_240 T_233 T_234 T_235 T_230 T_231 T_232 (S_c.ext O_247.2) hzc) hZ228 (hw _ (List.mem_of_getElem? (i := 60) rfl)) (hw _ (List.mem_of_getElem? (i := 2) rfl)) (by decide) (by decide)) q274a q274c (g := (mkF m 234 #[.val (.int p1), .val (.int p2), .val (.int p3), .val (.int p4), .val (.int p5), .val (.int cu), .val (.int cv), .val (.ref da), .val (.ref db), .val (.ref x6), .val (.int md), .val (.int (0 : Int32))] [(.ref da), (.ref db)])) rfl (by rw [hml]; rfl) (Steps.refl _) (argsL := [(.ref da)]) (rest := []) (lenOf pd_5 rfl) rfl (by show 2 * 0 + _ ≤ _; exact Nat.le_of_eq rfl) (hb hby at_234) (fun _ _ => ⟨rfl, e273, (by decide : 56 + 0 ≤ _), (by decide : 226 + 0 ≤ _)⟩)
          dsimp only [Pt.U, Pt.locs, Pt.cells, Pt.slots] at X274 l274 y274 z274 st274 hQ274
          subst l274 y274 z274
          obtain ⟨rfl, N274q, e274⟩ := hQ274
          have N274 := Fr.app N273 N274q
          have pre275 : ∀ t_, Steps p.tables e below (T274.setTop (mkF m 247 #[.val (.int p1), .val (.int p2), .val (.int p3), .val (.int p4), .val (.int p5), .val (.int cu), .val (.int cv), .val (.ref da), .val (.ref db), .val (.ref x6), .val (.int md), .val (.int (0 : Int32))] [(.int (1 : Int32))])) t_ → Steps p.tables e below (s₁.setTop (entryFrame m #[(.int p1), (.int p2), (.int p3), (.int p4), (.int p5)] maxLocals)) t_ := fun t_ k_ => pre259 _ (by
            show Steps p.tables e below (T258.setTop (mkF m 174 #[.val (.int p1), .val (.int p2), .val (.int p3), .val (.int p4), .val (.int p5), .val (.int cu), .val (.int cv), .val (.ref da), .val (.ref db), .val (.ref x6), .val (.int md), .unset] [(.int (if own_ds p1 cu cv = own_ds p2 cu cv then (1 : Int32) else 0))])) _
            refine XS.ifYes X258.here hx rfl (pc0 := 174) (pc' := 215) rfl (hb hby at_174) rfl ((if0 _ _).trans (teq (by rw [if_neg hA0])).1) (by decide) (by decide) ?_
            show Steps p.tables e below (T258.setTop (mkF m 215 #[.val (.int p1), .val (.int p2), .val (.int p3), .val (.int p4), .val (.int p5), .val (.int cu), .val (.int cv), .val (.ref da), .val (.ref db), .val (.ref x6), .val (.int md), .unset] [])) _
            refine XS.iconst X258.here hx rfl (hb hby at_215) ?_
            show Steps p.tables e below (T258.setTop (mkF m 216 #[.val (.int p1), .val (.int p2), .val (.int p3), .val (.int p4), .val (.int p5), .val (.int cu), .val (.int cv), .val (.ref da), .val (.ref db), .val (.ref x6), .val (.int md), .unset] [(.int (0 : Int32))])) _
            refine XS.istore X258.here hx rfl (hb hby at_216) rfl (l' := #[.val (.int p1), .val (.int p2), .val (.int p3), .val (.int p4), .val (.int p5), .val (.int cu), .val (.int cv), .val (.ref da), .val (.ref db), .val (.ref x6), .val (.int md), .val (.int (0 : Int32))]) rfl ?_
            show Steps p.tables e below (T258.setTop (mkF m 218 #[.val (.int p1), .val (.int p2), .val (.int p3), .val (.int p4), .val (.int p5), .val (.int cu), .val (.int cv), .val (.ref da), .val (.ref db), .val (.ref x6), .val (.int md), .val (.int (0 : Int32))] [])) _
            refine XS.aload X258.here hx rfl (hb hby at_218) rfl rfl ?_
            show Steps p.tables e below (T258.setTop (mkF m 220 #[.val (.int p1), .val (.int p2), .val (.int p3), .val (.int p4), .val (.int p5), .val (.int cu), .val (.int cv), .val (.ref da), .val (.ref db), .val (.ref x6), .val (.int md), .val (.int (0 : Int32))] [(.ref da)])) _
            refine XS.aload X258.here hx rfl (hb hby at_220) rfl rfl ?_
            show Steps p.tables e below (T258.setTop (mkF m 222 #[.val (.int p1), .val (.int p2), .val (.int p3), .val (.int p4), .val (.int p5), .val (.int cu), .val (.int cv), .val (.ref da), .val (.ref db), .val (.ref x6), .val (.int md), .val (.int (0 : Int32))] [(.ref db), (.ref da)])) _
            refine st273.trans ?_
            show Steps p.tables e below (T273.setTop (mkF m 225 #[.val (.int p1), .val (.int p2), .val (.int p3), .val (.int p4), .val (.int p5), .val (.int cu), .val (.int cv), .val (.ref da), .val (.ref db), .val (.ref x6), .val (.int md), .val (.int (0 : Int32))] [(.int (own_deq (own_ds p1 cu cv) (own_ds (p1 >>> ((4 : Int32) &&& 31)) cu cv) (own_ds (p1 >>> ((8 : Int32) &&& 31)) cu cv) (own_ds p2 cu cv) (own_ds (p2 >>> ((4 : Int32) &&& 31)) cu cv) (own_ds (p2 >>> ((8 : Int32) &&& 31)) cu cv)))])) _
            refine XS.iload X273.here hx rfl (hb hby at_225) rfl ?_
            show Steps p.tables e below (T273.setTop (mkF m 227 #[.val (.int p1), .val (.int p2), .val (.int p3), .val (.int p4), .val (.int p5), .val (.int cu), .val (.int cv), .val (.ref da), .val (.ref db), .val (.ref x6), .val (.int md), .val (.int (0 : Int32))] [(.int (0 : Int32)), (.int (own_deq (own_ds p1 cu cv) (own_ds (p1 >>> ((4 : Int32) &&& 31)) cu cv) (own_ds (p1 >>> ((8 : Int32) &&& 31)) cu cv) (own_ds p2 cu cv) (own_ds (p2 >>> ((4 : Int32) &&& 31)) cu cv) (own_ds (p2 >>> ((8 : Int32) &&& 31)) cu cv)))])) _
            refine XS.icmpNo X273.here hx rfl (hb hby at_227) rfl (teq (by rw [own_deq, if_neg hA0])).2 ?_
            show Steps p.tables e below (T273.setTop (mkF m 230 #[.val (.int p1), .val (.int p2), .val (.int p3), .val (.int p4), .val (.int p5), .val (.int cu), .val (.int cv), .val (.ref da), .val (.ref db), .val (.ref x6), .val (.int md), .val (.int (0 : Int32))] [])) _
            refine XS.aload X273.here hx rfl (hb hby at_230) rfl rfl ?_
            show Steps p.tables e below (T273.setTop (mkF m 232 #[.val (.int p1), .val (.int p2), .val (.int p3), .val (.int p4), .val (.int p5), .val (.int cu), .val (.int cv), .val (.ref da), .val (.ref db), .val (.ref x6), .val (.int md), .val (.int (0 : Int32))] [(.ref db)])) _
            refine XS.aload X273.here hx rfl (hb hby at_232) rfl rfl ?_
            show Steps p.tables e below (T273.setTop (mkF m 234 #[.val (.int p1), .val (.int p2), .val (.int p3), .val (.int p4), .val (.int p5), .val (.int cu), .val (.int cv), .val (.ref da), .val (.ref db), .val (.ref x6), .val (.int md), .val (.int (0 : Int32))] [(.ref da), (.ref db)])) _
            refine st274.trans ?_
            show Steps p.tables e below (T274.setTop (mkF m 237 #[.val (.int p1), .val (.int p2), .val (.int p3), .val (.int p4), .val (.int p5), .val (.int cu), .val (.int cv), .val (.ref da), .val (.ref db), .val (.ref x6), .val (.int md), .val (.int (0 : Int32))] [(.int (own_deq (own_ds p2 cu cv) (own_ds (p2 >>> ((4 : Int32) &&& 31)) cu cv) (own_ds (p2 >>> ((8 : Int32) &&& 31)) cu cv) (own_ds p1 cu cv) (own_ds (p1 >>> ((4 : Int32) &&& 31)) cu cv) (own_ds (p1 >>> ((8 : Int32) &&& 31)) cu cv)))])) _
            refine XS.iload X274.here hx rfl (hb hby at_237) rfl ?_
            show Steps p.tables e below (T274.setTop (mkF m 239 #[.val (.int p1), .val (.int p2), .val (.int p3), .val (.int p4), .val (.int p5), .val (.int cu), .val (.int cv), .val (.ref da), .val (.ref db), .val (.ref x6), .val (.int md), .val (.int (0 : Int32))] [(.int (0 : Int32)), (.int (own_deq (own_ds p2 cu cv) (own_ds (p2 >>> ((4 : Int32) &&& 31)) cu cv) (own_ds (p2 >>> ((8 : Int32) &&& 31)) cu cv) (own_ds p1 cu cv) (own_ds (p1 >>> ((4 : Int32) &&& 31)) cu cv) (own_ds (p1 >>> ((8 : Int32) &&& 31)) cu cv)))])) _
            refine XS.icmpNo X274.here hx rfl (hb hby at_239) rfl (teq ((own_deqc _ _ _ _ _ _).trans (by rw [own_deq, if_neg hA0]))).2 ?_
            show Steps p.tables e below (T274.setTop (mkF m 242 #[.val (.int p1), .val (.int p2), .val (.int p3), .val (.int p4), .val (.int p5), .val (.int cu), .val (.int cv), .val (.ref da), .val (.ref db), .val (.ref x6), .val (.int md), .val (.int (0 : Int32))] [])) _
            refine XS.iconst X274.here hx rfl (hb hby at_242) ?_
            show Steps p.tables e below (T274.setTop (mkF m 243 #[.val (.int p1), .val (.int p2), .val (.int p3), .val (.int p4), .val (.int p5), .val (.int cu), .val (.int cv), .val (.ref da), .val (.ref db), .val (.ref x6), .val (.int md), .val (.int (0 : Int32))] [(.int (1 : Int32))])) _
            refine XS.goto X274.here hx rfl (pc0 := 243) (pc' := 247) rfl (hb hby at_243) (by decide) (by decide) ?_
            exact k_)
          obtain ⟨fs, hr, hrun, hended, hWr, hW1, hW2, hsame⟩ := Jvm.Stand.leaveW (s := s) X274 hS228' (by rw [e274]; exact (Nat.le_refl _)) (v := some (.int (1 : Int32))) (fun h => by rw [Bd.returns] at h; cases h)
          refine ⟨_, _, pre275 _ ?_, hrun, hended, _, _, rfl, ?_, hWr, hW1, hW2, hsame.mono (by decide) (by decide)⟩
          · show Steps p.tables e below (T274.setTop (mkF m 247 #[.val (.int p1), .val (.int p2), .val (.int p3), .val (.int p4), .val (.int p5), .val (.int cu), .val (.int cv), .val (.ref da), .val (.ref db), .val (.ref x6), .val (.int md), .val (.int (0 : Int32))] [(.int (1 : Int32))])) _
            exact retN X274 hx (t := .boolean) Bd.returns (by simp) (hb hby at_247) hr
          · show Qrm0 Z p1 p2 p3 p4 p5 zc h0 n0 _ T274.heap _
            rw [e274]
            exact ⟨rfl, N274⟩
set_option maxRecDepth 65536 in
set_option maxHeartbeats 40000000 in
theorem comes_1 {Post : Tables → Env → Array Value → State → Outcome → State → Prop} (hpost : ∀ tb e args s v u, (limb_1_1.after args s (.returned v) u = true ∧ limb_1_2.after args s (.returned v) u = true ∧ True) → ReturnedEndW s (.returned v) u (Jvm.fieldLocs frame_1_writes args s ++ Jvm.arrayLocs frame_1_arrays args s ++ Jvm.staticLocs frame_1_statics s) 64 4352 → Post tb e args s (.returned v) u) :
    ArmFor flags0 classFile x code maxLocals ret World_1 tables_1 room_1 Calls_1 rest_1 Pre_1 Post := by
  intro l hfl _ _ p e ha hc hk s m args below hf hA hF happ hP
  obtain ⟨hcalls, hrest, hpre⟩ := hP
  obtain ⟨-, -, -, hnamed, -, -, -, hat⟩ := (Spec.applies_iff hf).mp happ
  obtain ⟨hg, hn⟩ := and_e (Cond.before_iff.mp (show (Jvm.Cond.and given_1 narrow_1).before args s = true from hpre))
  obtain ⟨gg1, gg2⟩ := and_e hg
  obtain ⟨gg3, gg4⟩ := and_e gg2
  obtain ⟨gg5, gg6⟩ := and_e gg4
  obtain ⟨gg7, gg8⟩ := and_e gg6
  obtain ⟨gg9, gg10⟩ := and_e gg8
  obtain ⟨w0, w1, w2, w3, w4, rfl⟩ : ∃ w0 w1 w2 w3 w4 : Value, args = #[w0, w1, w2, w3, w4] := by
    have hs : args.size = 5 := by simpa [Cond.value, given_1] using gg1
    obtain ⟨L⟩ := args
    match L, hs with
    | [w0, w1, w2, w3, w4], _ => exact ⟨w0, w1, w2, w3, w4, rfl⟩
  have hw := fun d (hd : d ∈ tables_1) => atoms_spec (ws := Jvm.Cond.code x code maxLocals ret :: tables_1) hat d (List.mem_cons_of_mem _ hd)
  have hfit : Fit s := fun {y c} hc i hi => by
    obtain ⟨ha, rfl⟩ := Array.getElem?_eq_some_iff.mp hc
    have q := List.all_eq_true.mp ((Array.all_eq_true_iff_forall_mem.mp hF) _ (Array.getElem_mem ha)) i (List.mem_range.mpr hi)
    simpa [Array.getElem?_eq_getElem hi] using q
  obtain ⟨i0, ei0⟩ := is_v gg3
  obtain rfl : w0 = (.int i0) := Option.some.inj ei0
  obtain ⟨i1, ei1⟩ := is_v gg5
  obtain rfl : w1 = (.int i1) := Option.some.inj ei1
  obtain ⟨i2, ei2⟩ := is_v gg7
  obtain rfl : w2 = (.int i2) := Option.some.inj ei2
  obtain ⟨i3, ei3⟩ := is_v gg9
  obtain rfl : w3 = (.int i3) := Option.some.inj ei3
  obtain ⟨i4, ei4⟩ := is_v gg10
  obtain rfl : w4 = (.int i4) := Option.some.inj ei4
  obtain ⟨hsets, hown0⟩ := atoms_of _ (rest_1_c_eq ▸ (show rest_1_c.before _ s = true from hrest))
  obtain ⟨zc, ezc⟩ := is_v (Cond.before_iff.mp (hsets _ (List.mem_of_getElem? (i := 1) rfl)))
  have S_c := Sta.start ezc (Or.inl (hsets _ (List.mem_of_getElem? (i := 0) rfl)))
  have hzc : ¬ zc = 0 := gotF (Cond.eq_ints ezc (Term.int_eval 0)) (not_v (Cond.before_iff.mp (hsets _ (List.mem_of_getElem? (i := 2) rfl))))
  have hCH : CHv s own_EL s.vm s.heap := CHv.start (a0 := _) (own_EW hw) (fun p hp => hcalls.1 p hp) (hsets _ (List.mem_of_getElem? (i := 2) rfl)) (hw _ (List.mem_of_getElem? (i := 28) rfl)) (hw _ (List.mem_of_getElem? (i := 14) rfl))
  obtain ⟨n, o, h1, h2, h3, _, L, rfl, ⟨rfl, N⟩, hq⟩ := rm0 l s _ hw tables_1 i0 i1 i2 i3 i4 zc s.heap s.heap.size (Nat.le_refl _) (Old.start s) S_c hzc p e ha hc hk s m _ below hf ((Spec.applies_iff_loose hf).mp happ).1 ⟨rfl, State.Warmed39.refl s, rfl, hCH⟩ trivial
  refine ⟨n, _, h1, h2, h3, hpost _ _ _ _ _ _ ⟨Cond.after_iff.mpr rfl, Cond.after_iff.mpr (eq_i res_at (Term.int_eval (1)) rfl), trivial⟩ ⟨hq.1, hq.2.1, hq.2.2.1, (hq.2.2.2.sift fun y hy => Or.inr (N y hy)).mono (by decide) (by decide)⟩⟩
theorem main_1_1 : Claimed_1_1 := comes_1 fun _ _ _ _ _ _ h hF => ⟨h.1, hF⟩
theorem main_1_2 : Claimed_1_2 := comes_1 fun _ _ _ _ _ _ h hF => ⟨h.2.1, hF⟩
end Jvm.Pilot.@@N@@
namespace Jvm.Pilot.@@N@@
open Jvm Jvm.ClassFile Sem Op Lib Jvm.Free Jvm.Stand Jvm.Pilot.@@N@@.Jvm.D
/-! MADE BY PROGRAM (witnessworld.py) out of the Statement's table words and the real class files: 21 classes; the members and pool entries that the words name. The judged class is class 1, her method 5. -/
namespace start1
open Jvm.ClassFile
def u (s : String) : CpInfo := .utf8 (stringToUtf16 s)
/-- a pool by its gaps: so many unusable entries, then the entry; so many at the end -/
def gap : Nat → List CpInfo → List CpInfo
  | 0, r => r
  | n + 1, r => .unusable :: gap n r
def poolList (es : List (Nat × CpInfo)) (last : Nat) : List CpInfo := es.foldr (fun e r => gap e.1 (e.2 :: r)) (gap last [])
def pool (es : List (Nat × CpInfo)) (last : Nat) : Array CpInfo := ⟨poolList es last⟩
def fileOf (pool : Array CpInfo) (this : Nat) (attrs : Array Attribute := #[]) (ms : Array MethodInfo := #[]) (fl : Nat := 33) (sup : Nat := 0) (ifs : Array Nat := #[]) (fds : Array FieldInfo := #[]) : ClassFile where
  minorVersion := 0
  majorVersion := 65
  constantPool := pool
  accessFlags := fl
  thisClass := this
  superClass := sup
  interfaces := ifs
  fields := fds
  methods := ms
  attributes := attrs
def plain (name : String) (sup : Option ClassId) : Class where
  name := name
  kind := .ordinary
  loader := none
  accessFlags := 33
  super := sup
  interfaces := #[]
  cf := none
  fields := #[]
  methods := #[]
  instanceTypes := #[]
  staticTypes := #[]
  resolved := #[]
  callSites := []
  init := .initialized
  statics := none
  mirror := none

def pool0 : Array CpInfo := pool [(5, u "<init>"), (0, u "()V"), (1, .class_ 10), (1, u "java/lang/Object")] 113

def k0c0 : Code := { maxStack := 0, maxLocals := 1, code := object_method_1_code, exceptionTable := #[], attributes := #[] }
def k0m0 : Method := { name := "<init>", desc := "()V", sig := { parameters := [], returnType := none }, accessFlags := 1, code := some k0c0 }
/-- java/lang/Object -/
def k0 : Class := { plain "java/lang/Object" none with
  accessFlags := 33
  interfaces := #[]
  cf := some (fileOf pool0 8 #[] #[{ accessFlags := 1, nameIndex := 5, descriptorIndex := 6, attributes := #[] }] 33 0 #[] #[])
  fields := #[]
  methods := #[k0m0]
  instanceTypes := #[]
  staticTypes := #[]
  resolved := Array.replicate 124 none
  statics := none }

def pool1 : Array CpInfo := pool [(2, .class_ 4), (1, u "java/lang/Object"), (0, u "<init>"), (0, u "()V"), (0, .methodref 8 9), (0, .class_ 10), (0, .nameAndType 11 12), (0, u "com/example/cranfield/cranfield/model/DocumentEqualsPinLaw"), (0, u "len"), (0, u "(I)I"), (0, .methodref 8 14), (0, .nameAndType 15 16), (0, u "ch"), (0, u "(ICC)C"), (0, .class_ 18), (0, u "java/lang/String"), (0, .methodref 17 20), (0, .nameAndType 5 21), (0, u "([C)V"), (0, .class_ 23), (0, u "com/example/cranfield/cranfield/model/Document"), (0, .methodref 8 25), (0, .nameAndType 26 27), (0, u "str"), (0, u "(ICC)Ljava/lang/String;"), (0, .methodref 22 29), (0, .nameAndType 5 30), (0, u "(Ljava/lang/String;Ljava/lang/String;Ljava/lang/String;)V"), (0, .methodref 22 32), (0, .nameAndType 33 34), (0, u "equals"), (0, u "(Ljava/lang/Object;)Z"), (0, .methodref 8 36), (0, .nameAndType 37 38), (0, u "same"), (0, u "(IICC)Z"), (3, u "law"), (0, u "(IIIII)Z")] 2

def k1m0 : Method := { name := "<init>", desc := "()V", sig := { parameters := [], returnType := none }, accessFlags := 1, code := none }
def k1c1 : Code := { maxStack := 2, maxLocals := 3, code := method_2_code, exceptionTable := #[], attributes := #[] }
def k1m1 : Method := { name := "ch", desc := "(ICC)C", sig := { parameters := [.int, .char, .char], returnType := some .char }, accessFlags := 10, code := some k1c1 }
def k1c2 : Code := { maxStack := 2, maxLocals := 1, code := method_3_code, exceptionTable := #[], attributes := #[] }
def k1m2 : Method := { name := "len", desc := "(I)I", sig := { parameters := [.int], returnType := some .int }, accessFlags := 10, code := some k1c2 }
def k1c3 : Code := { maxStack := 6, maxLocals := 6, code := method_4_code, exceptionTable := #[], attributes := #[] }
def k1m3 : Method := { name := "str", desc := "(ICC)Ljava/lang/String;", sig := { parameters := [.int, .char, .char], returnType := some (.object "java/lang/String") }, accessFlags := 10, code := some k1c3 }
def k1c4 : Code := { maxStack := 4, maxLocals := 6, code := method_5_code, exceptionTable := #[], attributes := #[] }
def k1m4 : Method := { name := "same", desc := "(IICC)Z", sig := { parameters := [.int, .int, .char, .char], returnType := some .boolean }, accessFlags := 10, code := some k1c4 }
def k1c5 : Code := { maxStack := 7, maxLocals := 12, code := code, exceptionTable := #[], attributes := #[] }
def k1m5 : Method := { name := "law", desc := "(IIIII)Z", sig := { parameters := [.int, .int, .int, .int, .int], returnType := some .boolean }, accessFlags := 9, code := some k1c5 }
/-- com/example/cranfield/cranfield/model/DocumentEqualsPinLaw -/
def k1 : Class := { plain "com/example/cranfield/cranfield/model/DocumentEqualsPinLaw" (some 0) with
  accessFlags := 49
  interfaces := #[]
  cf := some (fileOf pool1 8 #[] #[{ accessFlags := 1, nameIndex := 5, descriptorIndex := 6, attributes := #[] }, { accessFlags := 10, nameIndex := 15, descriptorIndex := 16, attributes := #[] }, { accessFlags := 10, nameIndex := 11, descriptorIndex := 12, attributes := #[] }, { accessFlags := 10, nameIndex := 26, descriptorIndex := 27, attributes := #[] }, { accessFlags := 10, nameIndex := 37, descriptorIndex := 38, attributes := #[] }, { accessFlags := 9, nameIndex := 42, descriptorIndex := 43, attributes := #[] }] 49 2 #[] #[])
  fields := #[]
  methods := #[k1m0, k1m1, k1m2, k1m3, k1m4, k1m5]
  instanceTypes := #[]
  staticTypes := #[]
  resolved := Array.replicate 46 none
  statics := none }

def pool2 : Array CpInfo := pool [(4, .class_ 6), (1, u "com/example/cranfield/cranfield/model/Document"), (0, u "<init>"), (0, u "(Ljava/lang/String;Ljava/lang/String;Ljava/lang/String;)V"), (0, .methodref 10 11), (0, .class_ 12), (0, .nameAndType 7 13), (0, u "java/lang/Object"), (0, u "()V"), (0, .string 15), (0, u "docno"), (0, .methodref 17 18), (0, .class_ 19), (0, .nameAndType 20 21), (0, u "java/util/Objects"), (0, u "requireNonNull"), (0, u "(Ljava/lang/Object;Ljava/lang/String;)Ljava/lang/Object;"), (0, .class_ 23), (0, u "java/lang/String"), (0, .fieldref 4 25), (0, .nameAndType 15 26), (0, u "Ljava/lang/String;"), (0, .string 28), (0, u "title"), (0, .fieldref 4 30), (0, .nameAndType 28 26), (0, .string 32), (0, u "text"), (0, .fieldref 4 34), (0, .nameAndType 32 26), (0, .methodref 22 36), (0, .nameAndType 37 38), (0, u "equals"), (0, u "(Ljava/lang/Object;)Z")] 33

def k2c0 : Code := { maxStack := 3, maxLocals := 4, code := prog_56_method_2_code, exceptionTable := #[], attributes := #[] }
def k2m0 : Method := { name := "<init>", desc := "(Ljava/lang/String;Ljava/lang/String;Ljava/lang/String;)V", sig := { parameters := [(.object "java/lang/String"), (.object "java/lang/String"), (.object "java/lang/String")], returnType := none }, accessFlags := 1, code := some k2c0 }
def k2c1 : Code := { maxStack := 2, maxLocals := 3, code := prog_56_method_6_code, exceptionTable := #[], attributes := #[] }
def k2m1 : Method := { name := "equals", desc := "(Ljava/lang/Object;)Z", sig := { parameters := [(.object "java/lang/Object")], returnType := some .boolean }, accessFlags := 1, code := some k2c1 }
/-- com/example/cranfield/cranfield/model/Document -/
def k2 : Class := { plain "com/example/cranfield/cranfield/model/Document" (some 0) with
  accessFlags := 33
  interfaces := #[]
  cf := some (fileOf pool2 4 #[] #[{ accessFlags := 1, nameIndex := 7, descriptorIndex := 8, attributes := #[] }, { accessFlags := 1, nameIndex := 37, descriptorIndex := 38, attributes := #[] }] 33 10 #[] #[{ accessFlags := 18, nameIndex := 15, descriptorIndex := 26, attributes := #[] }, { accessFlags := 18, nameIndex := 28, descriptorIndex := 26, attributes := #[] }, { accessFlags := 18, nameIndex := 32, descriptorIndex := 26, attributes := #[] }])
  fields := #[{ name := "docno", type := (.object "java/lang/String"), accessFlags := 18, slot := 0, constantValue := 0 }, { name := "title", type := (.object "java/lang/String"), accessFlags := 18, slot := 1, constantValue := 0 }, { name := "text", type := (.object "java/lang/String"), accessFlags := 18, slot := 2, constantValue := 0 }]
  methods := #[k2m0, k2m1]
  instanceTypes := #[(.object "java/lang/String"), (.object "java/lang/String"), (.object "java/lang/String")]
  staticTypes := #[]
  resolved := Array.replicate 72 none
  statics := none }

def pool3 : Array CpInfo := pool [(1, .class_ 2), (0, u "java/io/Serializable"), (0, .class_ 4), (0, u "java/lang/Object")] 2

/-- java/io/Serializable -/
def k3 : Class := { plain "java/io/Serializable" (some 0) with
  accessFlags := 1537
  interfaces := #[]
  cf := some (fileOf pool3 1 #[] #[] 1537 3 #[] #[])
  fields := #[]
  methods := #[]
  instanceTypes := #[]
  staticTypes := #[]
  resolved := Array.replicate 7 none
  statics := none }

def pool4 : Array CpInfo := pool [(1, .class_ 2), (0, u "java/lang/Comparable"), (0, .class_ 4), (0, u "java/lang/Object")] 7

/-- java/lang/Comparable -/
def k4 : Class := { plain "java/lang/Comparable" (some 0) with
  accessFlags := 1537
  interfaces := #[]
  cf := some (fileOf pool4 1 #[] #[] 1537 3 #[] #[])
  fields := #[]
  methods := #[]
  instanceTypes := #[]
  staticTypes := #[]
  resolved := Array.replicate 12 none
  statics := none }

def pool5 : Array CpInfo := pool [(2, .class_ 4), (1, u "java/lang/CharSequence"), (42, .class_ 48), (0, u "java/lang/CharSequence$1CodePointIterator"), (10, .class_ 60), (0, u "java/lang/CharSequence$1CharIterator"), (5, .class_ 67), (0, u "java/lang/Object")] 63

/-- java/lang/CharSequence -/
def k5 : Class := { plain "java/lang/CharSequence" (some 0) with
  accessFlags := 1537
  interfaces := #[]
  cf := some (fileOf pool5 2 #[.nestMembers #[47, 59]] #[] 1537 66 #[] #[])
  fields := #[]
  methods := #[]
  instanceTypes := #[]
  staticTypes := #[]
  resolved := Array.replicate 131 none
  statics := none }

def pool6 : Array CpInfo := pool [(1, .class_ 2), (0, u "java/lang/constant/Constable"), (0, .class_ 4), (0, u "java/lang/Object")] 6

/-- java/lang/constant/Constable -/
def k6 : Class := { plain "java/lang/constant/Constable" (some 0) with
  accessFlags := 1537
  interfaces := #[]
  cf := some (fileOf pool6 1 #[] #[] 1537 3 #[] #[])
  fields := #[]
  methods := #[]
  instanceTypes := #[]
  staticTypes := #[]
  resolved := Array.replicate 11 none
  statics := none }

def pool7 : Array CpInfo := pool [(1, .class_ 2), (0, u "java/lang/constant/ConstantDesc"), (0, .class_ 4), (0, u "java/lang/Object")] 32

/-- java/lang/constant/ConstantDesc -/
def k7 : Class := { plain "java/lang/constant/ConstantDesc" (some 0) with
  accessFlags := 1537
  interfaces := #[]
  cf := some (fileOf pool7 1 #[] #[] 1537 3 #[] #[])
  fields := #[]
  methods := #[]
  instanceTypes := #[]
  staticTypes := #[]
  resolved := Array.replicate 37 none
  statics := none }

def pool8 : Array CpInfo := pool [(1, .methodref 2 3), (0, .class_ 4), (0, .nameAndType 5 6), (0, u "java/lang/Object"), (0, u "<init>"), (0, u "()V"), (0, .string 8), (0, u ""), (0, .fieldref 10 11), (0, .class_ 12), (0, .nameAndType 13 14), (0, u "java/lang/String"), (0, u "value"), (0, u "[B"), (0, .fieldref 10 16), (0, .nameAndType 17 18), (0, u "coder"), (0, u "B"), (2, u "hash"), (0, u "I"), (2, u "hashIsZero"), (0, u "Z"), (0, .methodref 10 28), (0, .nameAndType 5 29), (0, u "([CIILjava/lang/Void;)V"), (8, .fieldref 10 39), (0, .nameAndType 40 26), (0, u "COMPACT_STRINGS"), (1, .class_ 44), (1, u "java/lang/StringUTF16"), (0, u "compress"), (1, .methodref 42 48), (0, .nameAndType 49 50), (0, u "coderFromArrayLen"), (0, u "([BI)B"), (56, .class_ 109), (1, u "java/lang/StringLatin1"), (67, .methodref 42 178), (0, .nameAndType 45 179), (0, u "([CII)[B"), (361, .methodref 107 542), (0, .nameAndType 543 544), (0, u "equals"), (0, u "([B[B)Z"), (28, u "(Ljava/lang/Object;)Z"), (1, .class_ 576), (0, u "java/lang/CharSequence"), (22, u "CASE_INSENSITIVE_ORDER"), (0, u "Ljava/util/Comparator;"), (409, u "([C)V"), (90, u "serialPersistentFields"), (0, u "[Ljava/io/ObjectStreamField;"), (0, .class_ 1104), (0, u "java/lang/String$CaseInsensitiveComparator"), (1, .class_ 1107), (0, u "java/io/Serializable"), (0, .class_ 1109), (0, u "java/lang/Comparable"), (0, .class_ 1111), (0, u "java/lang/constant/Constable"), (0, .class_ 1113), (0, u "java/lang/constant/ConstantDesc"), (2, u "serialVersionUID"), (0, u "J"), (3, u "REPL"), (0, u "C"), (2, u "LATIN1"), (1, u "UTF16")] 323

def k8m0 : Method := { name := "<init>", desc := "()V", sig := { parameters := [], returnType := none }, accessFlags := 1, code := none }
def k8c1 : Code := { maxStack := 5, maxLocals := 2, code := jdk_42_method_3_code, exceptionTable := #[], attributes := #[] }
def k8m1 : Method := { name := "<init>", desc := "([C)V", sig := { parameters := [(.array .char)], returnType := none }, accessFlags := 1, code := some k8c1 }
def k8c2 : Code := { maxStack := 2, maxLocals := 3, code := jdk_42_method_66_code, exceptionTable := #[], attributes := #[] }
def k8m2 : Method := { name := "equals", desc := "(Ljava/lang/Object;)Z", sig := { parameters := [(.object "java/lang/Object")], returnType := some .boolean }, accessFlags := 1, code := some k8c2 }
def k8c3 : Code := { maxStack := 4, maxLocals := 6, code := jdk_42_method_149_code, exceptionTable := #[], attributes := #[] }
def k8m3 : Method := { name := "<init>", desc := "([CIILjava/lang/Void;)V", sig := { parameters := [(.array .char), .int, .int, (.object "java/lang/Void")], returnType := none }, accessFlags := 2, code := some k8c3 }
/-- java/lang/String -/
def k8 : Class := { plain "java/lang/String" (some 0) with
  accessFlags := 49
  interfaces := #[3, 4, 5, 6, 7]
  cf := some (fileOf pool8 10 #[.nestMembers #[1103]] #[{ accessFlags := 1, nameIndex := 5, descriptorIndex := 6, attributes := #[] }, { accessFlags := 1, nameIndex := 5, descriptorIndex := 1010, attributes := #[] }, { accessFlags := 1, nameIndex := 543, descriptorIndex := 573, attributes := #[] }, { accessFlags := 2, nameIndex := 5, descriptorIndex := 29, attributes := #[] }] 49 2 #[1106, 1108, 575, 1110, 1112] #[{ accessFlags := 18, nameIndex := 13, descriptorIndex := 14, attributes := #[] }, { accessFlags := 18, nameIndex := 17, descriptorIndex := 18, attributes := #[] }, { accessFlags := 2, nameIndex := 21, descriptorIndex := 22, attributes := #[] }, { accessFlags := 2, nameIndex := 25, descriptorIndex := 26, attributes := #[] }, { accessFlags := 26, nameIndex := 1116, descriptorIndex := 1117, attributes := #[] }, { accessFlags := 24, nameIndex := 40, descriptorIndex := 26, attributes := #[] }, { accessFlags := 26, nameIndex := 1101, descriptorIndex := 1102, attributes := #[] }, { accessFlags := 26, nameIndex := 1121, descriptorIndex := 1122, attributes := #[] }, { accessFlags := 25, nameIndex := 599, descriptorIndex := 600, attributes := #[] }, { accessFlags := 24, nameIndex := 1125, descriptorIndex := 18, attributes := #[] }, { accessFlags := 24, nameIndex := 1127, descriptorIndex := 18, attributes := #[] }])
  fields := #[{ name := "value", type := (.array .byte), accessFlags := 18, slot := 0, constantValue := 0 }, { name := "coder", type := .byte, accessFlags := 18, slot := 1, constantValue := 0 }, { name := "hash", type := .int, accessFlags := 2, slot := 2, constantValue := 0 }, { name := "hashIsZero", type := .boolean, accessFlags := 2, slot := 3, constantValue := 0 }, { name := "serialVersionUID", type := .long, accessFlags := 26, slot := 0, constantValue := 0 }, { name := "COMPACT_STRINGS", type := .boolean, accessFlags := 24, slot := 1, constantValue := 0 }, { name := "serialPersistentFields", type := (.array (.object "java/io/ObjectStreamField")), accessFlags := 26, slot := 2, constantValue := 0 }, { name := "REPL", type := .char, accessFlags := 26, slot := 3, constantValue := 0 }, { name := "CASE_INSENSITIVE_ORDER", type := (.object "java/util/Comparator"), accessFlags := 25, slot := 4, constantValue := 0 }, { name := "LATIN1", type := .byte, accessFlags := 24, slot := 5, constantValue := 0 }, { name := "UTF16", type := .byte, accessFlags := 24, slot := 6, constantValue := 0 }]
  methods := #[k8m0, k8m1, k8m2, k8m3]
  instanceTypes := #[(.array .byte), .byte, .int, .boolean]
  staticTypes := #[.long, .boolean, (.array (.object "java/io/ObjectStreamField")), .char, (.object "java/util/Comparator"), .byte, .byte]
  resolved := Array.replicate 1451 none
  statics := some 0 }

def pool9 : Array CpInfo := pool [(2, .class_ 4), (1, u "java/lang/Object"), (0, u "<init>"), (0, u "()V"), (35, .class_ 44), (1, u "java/util/Objects"), (0, u "requireNonNull"), (48, u "(Ljava/lang/Object;Ljava/lang/String;)Ljava/lang/Object;")] 89

def k9m0 : Method := { name := "<init>", desc := "()V", sig := { parameters := [], returnType := none }, accessFlags := 2, code := none }
def k9c1 : Code := { maxStack := 3, maxLocals := 2, code := jdk_31_method_11_code, exceptionTable := #[], attributes := #[] }
def k9m1 : Method := { name := "requireNonNull", desc := "(Ljava/lang/Object;Ljava/lang/String;)Ljava/lang/Object;", sig := { parameters := [(.object "java/lang/Object"), (.object "java/lang/String")], returnType := some (.object "java/lang/Object") }, accessFlags := 9, code := some k9c1 }
/-- java/util/Objects -/
def k9 : Class := { plain "java/util/Objects" (some 0) with
  accessFlags := 49
  interfaces := #[]
  cf := some (fileOf pool9 42 #[] #[{ accessFlags := 2, nameIndex := 5, descriptorIndex := 6, attributes := #[] }, { accessFlags := 9, nameIndex := 45, descriptorIndex := 94, attributes := #[] }] 49 2 #[] #[])
  fields := #[]
  methods := #[k9m0, k9m1]
  instanceTypes := #[]
  staticTypes := #[]
  resolved := Array.replicate 184 none
  statics := none }

def pool10 : Array CpInfo := pool [(4, .class_ 6), (1, u "java/lang/Object"), (0, u "<init>"), (0, u "()V"), (5, .class_ 16), (1, u "java/lang/StringLatin1"), (104, u "$assertionsDisabled"), (0, u "Z"), (98, .class_ 223), (1, u "java/lang/StringLatin1$LinesSpliterator"), (57, u "equals"), (0, u "([B[B)Z"), (107, .class_ 391), (0, u "java/lang/StringLatin1$CharsSpliterator")] 3

def k10m0 : Method := { name := "<init>", desc := "()V", sig := { parameters := [], returnType := none }, accessFlags := 0, code := none }
def k10c1 : Code := { maxStack := 3, maxLocals := 3, code := jdk_43_method_13_code, exceptionTable := #[], attributes := #[] }
def k10m1 : Method := { name := "equals", desc := "([B[B)Z", sig := { parameters := [(.array .byte), (.array .byte)], returnType := some .boolean }, accessFlags := 9, code := some k10c1 }
/-- java/lang/StringLatin1 -/
def k10 : Class := { plain "java/lang/StringLatin1" (some 0) with
  accessFlags := 48
  interfaces := #[]
  cf := some (fileOf pool10 14 #[.nestMembers #[390, 221]] #[{ accessFlags := 0, nameIndex := 7, descriptorIndex := 8, attributes := #[] }, { accessFlags := 9, nameIndex := 281, descriptorIndex := 282, attributes := #[] }] 48 4 #[] #[{ accessFlags := 4120, nameIndex := 121, descriptorIndex := 122, attributes := #[] }])
  fields := #[{ name := "$assertionsDisabled", type := .boolean, accessFlags := 4120, slot := 0, constantValue := 0 }]
  methods := #[k10m0, k10m1]
  instanceTypes := #[]
  staticTypes := #[.boolean]
  resolved := Array.replicate 395 none
  statics := none }

def pool11 : Array CpInfo := pool [(6, .class_ 8), (1, u "java/lang/Object"), (0, u "<init>"), (0, u "()V"), (1, .class_ 14), (1, u "java/lang/StringUTF16"), (31, u "$assertionsDisabled"), (0, u "Z"), (13, u "HI_BYTE_SHIFT"), (0, u "I"), (2, u "LO_BYTE_SHIFT"), (49, .methodref 12 116), (0, .nameAndType 117 118), (0, u "compress"), (0, u "([CI[BII)I"), (3, u "([CII)[B"), (138, u "coderFromArrayLen"), (0, u "([BI)B"), (106, .class_ 371), (1, u "java/lang/StringUTF16$LinesSpliterator"), (58, u "MAX_LENGTH"), (196, .class_ 628), (0, u "java/lang/StringUTF16$CodePointsSpliterator"), (0, .class_ 630), (0, u "java/lang/StringUTF16$CharsSpliterator")] 4

def k11m0 : Method := { name := "<init>", desc := "()V", sig := { parameters := [], returnType := none }, accessFlags := 0, code := none }
def k11c1 : Code := { maxStack := 2, maxLocals := 2, code := jdk_52_method_15_code, exceptionTable := #[], attributes := #[] }
def k11m1 : Method := { name := "coderFromArrayLen", desc := "([BI)B", sig := { parameters := [(.array .byte), .int], returnType := some .byte }, accessFlags := 8, code := some k11c1 }
def k11c2 : Code := { maxStack := 5, maxLocals := 6, code := jdk_52_method_16_code, exceptionTable := #[], attributes := #[] }
def k11m2 : Method := { name := "compress", desc := "([CII)[B", sig := { parameters := [(.array .char), .int, .int], returnType := some (.array .byte) }, accessFlags := 9, code := some k11c2 }
def k11c3 : Code := { maxStack := 3, maxLocals := 7, code := jdk_52_method_21_code, exceptionTable := #[], attributes := #[] }
def k11m3 : Method := { name := "compress", desc := "([CI[BII)I", sig := { parameters := [(.array .char), .int, (.array .byte), .int, .int], returnType := some .int }, accessFlags := 9, code := some k11c3 }
/-- java/lang/StringUTF16 -/
def k11 : Class := { plain "java/lang/StringUTF16" (some 0) with
  accessFlags := 48
  interfaces := #[]
  cf := some (fileOf pool11 12 #[.nestMembers #[627, 629, 369]] #[{ accessFlags := 0, nameIndex := 9, descriptorIndex := 10, attributes := #[] }, { accessFlags := 8, nameIndex := 261, descriptorIndex := 262, attributes := #[] }, { accessFlags := 9, nameIndex := 117, descriptorIndex := 122, attributes := #[] }, { accessFlags := 9, nameIndex := 117, descriptorIndex := 118, attributes := #[] }] 48 6 #[] #[{ accessFlags := 26, nameIndex := 61, descriptorIndex := 62, attributes := #[] }, { accessFlags := 26, nameIndex := 65, descriptorIndex := 62, attributes := #[] }, { accessFlags := 24, nameIndex := 430, descriptorIndex := 62, attributes := #[] }, { accessFlags := 4120, nameIndex := 46, descriptorIndex := 47, attributes := #[] }])
  fields := #[{ name := "HI_BYTE_SHIFT", type := .int, accessFlags := 26, slot := 0, constantValue := 0 }, { name := "LO_BYTE_SHIFT", type := .int, accessFlags := 26, slot := 1, constantValue := 0 }, { name := "MAX_LENGTH", type := .int, accessFlags := 24, slot := 2, constantValue := 0 }, { name := "$assertionsDisabled", type := .boolean, accessFlags := 4120, slot := 3, constantValue := 0 }]
  methods := #[k11m0, k11m1, k11m2, k11m3]
  instanceTypes := #[]
  staticTypes := #[.int, .int, .int, .boolean]
  resolved := Array.replicate 635 none
  statics := none }

def pool12 : Array CpInfo := pool [(2, .class_ 4), (1, u "java/lang/Object"), (0, u "<init>"), (0, u "()V"), (17, .class_ 26), (1, u "jdk/internal/util/Preconditions"), (28, .class_ 56), (0, u "jdk/internal/util/Preconditions$4"), (57, .class_ 115), (0, u "jdk/internal/util/Preconditions$1"), (7, u "SIOOBE_FORMATTER"), (0, u "Ljava/util/function/BiFunction;"), (0, .class_ 126), (0, u "jdk/internal/util/Preconditions$2"), (3, u "AIOOBE_FORMATTER"), (0, .class_ 132), (0, u "jdk/internal/util/Preconditions$3"), (3, u "IOOBE_FORMATTER")] 57

def k12m0 : Method := { name := "<init>", desc := "()V", sig := { parameters := [], returnType := none }, accessFlags := 1, code := none }
/-- jdk/internal/util/Preconditions -/
def k12 : Class := { plain "jdk/internal/util/Preconditions" (some 0) with
  accessFlags := 33
  interfaces := #[]
  cf := some (fileOf pool12 24 #[.nestMembers #[55, 131, 125, 114]] #[{ accessFlags := 1, nameIndex := 5, descriptorIndex := 6, attributes := #[] }] 33 2 #[] #[{ accessFlags := 25, nameIndex := 123, descriptorIndex := 124, attributes := #[] }, { accessFlags := 25, nameIndex := 130, descriptorIndex := 124, attributes := #[] }, { accessFlags := 25, nameIndex := 136, descriptorIndex := 124, attributes := #[] }])
  fields := #[{ name := "SIOOBE_FORMATTER", type := (.object "java/util/function/BiFunction"), accessFlags := 25, slot := 0, constantValue := 0 }, { name := "AIOOBE_FORMATTER", type := (.object "java/util/function/BiFunction"), accessFlags := 25, slot := 1, constantValue := 0 }, { name := "IOOBE_FORMATTER", type := (.object "java/util/function/BiFunction"), accessFlags := 25, slot := 2, constantValue := 0 }]
  methods := #[k12m0]
  instanceTypes := #[]
  staticTypes := #[(.object "java/util/function/BiFunction"), (.object "java/util/function/BiFunction"), (.object "java/util/function/BiFunction")]
  resolved := Array.replicate 194 none
  statics := some 1 }

def pool13 : Array CpInfo := pool [(9, u "<init>"), (6, .class_ 18), (1, u "java/lang/Object"), (0, u "()V"), (1, .class_ 23), (1, u "jdk/internal/util/ArraysSupport"), (0, u "LOG2_ARRAY_LONG_INDEX_SCALE"), (0, u "I"), (2, u "U"), (0, u "Ljdk/internal/misc/Unsafe;"), (8, u "BIG_ENDIAN"), (0, u "Z"), (8, u "LOG2_BYTE_BIT_SIZE"), (4, u "LOG2_ARRAY_INT_INDEX_SCALE"), (54, u "JLA"), (0, u "Ljdk/internal/access/JavaLangAccess;"), (11, u "LOG2_ARRAY_BOOLEAN_INDEX_SCALE"), (9, u "LOG2_ARRAY_BYTE_INDEX_SCALE"), (5, u "LOG2_ARRAY_CHAR_INDEX_SCALE"), (5, u "LOG2_ARRAY_SHORT_INDEX_SCALE"), (18, u "LOG2_ARRAY_FLOAT_INDEX_SCALE"), (24, u "LOG2_ARRAY_DOUBLE_INDEX_SCALE"), (89, u "T_BOOLEAN"), (2, u "T_CHAR"), (1, u "T_FLOAT"), (1, u "T_DOUBLE"), (1, u "T_BYTE"), (1, u "T_SHORT"), (1, u "T_INT"), (1, u "T_LONG"), (1, u "SOFT_MAX_ARRAY_LENGTH")] 83

def k13m0 : Method := { name := "<init>", desc := "()V", sig := { parameters := [], returnType := none }, accessFlags := 2, code := none }
/-- jdk/internal/util/ArraysSupport -/
def k13 : Class := { plain "jdk/internal/util/ArraysSupport" (some 0) with
  accessFlags := 33
  interfaces := #[]
  cf := some (fileOf pool13 21 #[] #[{ accessFlags := 2, nameIndex := 9, descriptorIndex := 19, attributes := #[] }] 33 16 #[] #[{ accessFlags := 24, nameIndex := 28, descriptorIndex := 29, attributes := #[] }, { accessFlags := 26, nameIndex := 38, descriptorIndex := 39, attributes := #[] }, { accessFlags := 25, nameIndex := 121, descriptorIndex := 25, attributes := #[] }, { accessFlags := 25, nameIndex := 131, descriptorIndex := 25, attributes := #[] }, { accessFlags := 25, nameIndex := 137, descriptorIndex := 25, attributes := #[] }, { accessFlags := 25, nameIndex := 143, descriptorIndex := 25, attributes := #[] }, { accessFlags := 25, nameIndex := 53, descriptorIndex := 25, attributes := #[] }, { accessFlags := 25, nameIndex := 24, descriptorIndex := 25, attributes := #[] }, { accessFlags := 25, nameIndex := 162, descriptorIndex := 25, attributes := #[] }, { accessFlags := 25, nameIndex := 187, descriptorIndex := 25, attributes := #[] }, { accessFlags := 26, nameIndex := 48, descriptorIndex := 25, attributes := #[] }, { accessFlags := 25, nameIndex := 277, descriptorIndex := 25, attributes := #[] }, { accessFlags := 25, nameIndex := 280, descriptorIndex := 25, attributes := #[] }, { accessFlags := 25, nameIndex := 282, descriptorIndex := 25, attributes := #[] }, { accessFlags := 25, nameIndex := 284, descriptorIndex := 25, attributes := #[] }, { accessFlags := 25, nameIndex := 286, descriptorIndex := 25, attributes := #[] }, { accessFlags := 25, nameIndex := 288, descriptorIndex := 25, attributes := #[] }, { accessFlags := 25, nameIndex := 290, descriptorIndex := 25, attributes := #[] }, { accessFlags := 25, nameIndex := 292, descriptorIndex := 25, attributes := #[] }, { accessFlags := 26, nameIndex := 108, descriptorIndex := 109, attributes := #[] }, { accessFlags := 25, nameIndex := 294, descriptorIndex := 25, attributes := #[] }])
  fields := #[{ name := "U", type := (.object "jdk/internal/misc/Unsafe"), accessFlags := 24, slot := 0, constantValue := 0 }, { name := "BIG_ENDIAN", type := .boolean, accessFlags := 26, slot := 1, constantValue := 0 }, { name := "LOG2_ARRAY_BOOLEAN_INDEX_SCALE", type := .int, accessFlags := 25, slot := 2, constantValue := 0 }, { name := "LOG2_ARRAY_BYTE_INDEX_SCALE", type := .int, accessFlags := 25, slot := 3, constantValue := 0 }, { name := "LOG2_ARRAY_CHAR_INDEX_SCALE", type := .int, accessFlags := 25, slot := 4, constantValue := 0 }, { name := "LOG2_ARRAY_SHORT_INDEX_SCALE", type := .int, accessFlags := 25, slot := 5, constantValue := 0 }, { name := "LOG2_ARRAY_INT_INDEX_SCALE", type := .int, accessFlags := 25, slot := 6, constantValue := 0 }, { name := "LOG2_ARRAY_LONG_INDEX_SCALE", type := .int, accessFlags := 25, slot := 7, constantValue := 0 }, { name := "LOG2_ARRAY_FLOAT_INDEX_SCALE", type := .int, accessFlags := 25, slot := 8, constantValue := 0 }, { name := "LOG2_ARRAY_DOUBLE_INDEX_SCALE", type := .int, accessFlags := 25, slot := 9, constantValue := 0 }, { name := "LOG2_BYTE_BIT_SIZE", type := .int, accessFlags := 26, slot := 10, constantValue := 0 }, { name := "T_BOOLEAN", type := .int, accessFlags := 25, slot := 11, constantValue := 0 }, { name := "T_CHAR", type := .int, accessFlags := 25, slot := 12, constantValue := 0 }, { name := "T_FLOAT", type := .int, accessFlags := 25, slot := 13, constantValue := 0 }, { name := "T_DOUBLE", type := .int, accessFlags := 25, slot := 14, constantValue := 0 }, { name := "T_BYTE", type := .int, accessFlags := 25, slot := 15, constantValue := 0 }, { name := "T_SHORT", type := .int, accessFlags := 25, slot := 16, constantValue := 0 }, { name := "T_INT", type := .int, accessFlags := 25, slot := 17, constantValue := 0 }, { name := "T_LONG", type := .int, accessFlags := 25, slot := 18, constantValue := 0 }, { name := "JLA", type := (.object "jdk/internal/access/JavaLangAccess"), accessFlags := 26, slot := 19, constantValue := 0 }, { name := "SOFT_MAX_ARRAY_LENGTH", type := .int, accessFlags := 25, slot := 20, constantValue := 0 }]
  methods := #[k13m0]
  instanceTypes := #[]
  staticTypes := #[(.object "jdk/internal/misc/Unsafe"), .boolean, .int, .int, .int, .int, .int, .int, .int, .int, .int, .int, .int, .int, .int, .int, .int, .int, .int, (.object "jdk/internal/access/JavaLangAccess"), .int]
  resolved := Array.replicate 378 none
  statics := none }

def pool14 : Array CpInfo := pool [(1, u "java/lang/Cloneable"), (0, .class_ 1), (0, u "java/lang/Object"), (0, .class_ 3)] 3

/-- java/lang/Cloneable -/
def k14 : Class := { plain "java/lang/Cloneable" (some 0) with
  accessFlags := 1537
  interfaces := #[]
  cf := some (fileOf pool14 2 #[] #[] 1537 4 #[] #[])
  fields := #[]
  methods := #[]
  instanceTypes := #[]
  staticTypes := #[]
  resolved := Array.replicate 8 none
  statics := none }

/-- the primitive byte -/
def k15 : Class := { plain "byte" none with kind := .primitive 'B', accessFlags := 0x411 }
/-- [B -/
def k16 : Class := { plain "[B" (some 0) with kind := .array 15 .byte, interfaces := #[14, 3], accessFlags := 1041 }

/-- the primitive char -/
def k17 : Class := { plain "char" none with kind := .primitive 'C', accessFlags := 0x411 }
/-- [C -/
def k18 : Class := { plain "[C" (some 0) with kind := .array 17 .char, interfaces := #[14, 3], accessFlags := 1041 }

/-- the primitive int -/
def k19 : Class := { plain "int" none with kind := .primitive 'I', accessFlags := 0x411 }
/-- [I -/
def k20 : Class := { plain "[I" (some 0) with kind := .array 19 .int, interfaces := #[14, 3], accessFlags := 1041 }

def heap : Heap := #[{ cls := 8, slots := #[.long 0, .int 1, .null, .int 0, .null, .int 0, .int 0], vm := .statics 8 },
  { cls := 12, slots := #[.null, .null, .null], vm := .statics 12 }]
def classes : Array Class := #[k0, k1, k2, k3, k4, k5, k6, k7, k8, k9, k10, k11, k12, k13, k14, k15, k16, k17, k18, k19, k20]
def interned : List (Array UInt16 × Addr) := []
def slotsUsed : Nat := 10
def theMethod : MethodId := ⟨1, 5⟩
def args0 : Array Value := #[.int 5, .int 5, .int 5, .int 5, .int 5]
def aboutOver (below : List Frame) : State where
  vm := { classes := classes, interned := interned.toArray }
  heap := heap
  slotsUsed := slotsUsed
  threads := #[{ frames := .invoking theMethod args0 :: below }]
def below0 : List Frame := [.native { method := ⟨0, 0⟩, args := #[] }]
def about1 : State := aboutOver below0
def p0 : Program := .bare "" "" ""
def e0 : Env := launch0.env 0 0 0
theorem w_frames : about1.frames = Frame.invoking theMethod args0 :: below0 := rfl
set_option maxRecDepth 65536 in
theorem w_args : argsFit about1.vm theMethod args0 = true := by decide +kernel
set_option maxRecDepth 65536 in
theorem w_heap : heapFits about1 = true := by decide +kernel
set_option maxRecDepth 65536 in
theorem w_runnable : about1.curStatus? = some .runnable := by decide +kernel
set_option maxRecDepth 65536 in
theorem w_alone : about1.alone = true := by decide +kernel
set_option maxRecDepth 65536 in
theorem w_named : about1.methodNamed? x = some theMethod := by decide +kernel
set_option maxRecDepth 65536 in
theorem w_hears : about1.hears theMethod below0 = true := by decide +kernel
set_option maxRecDepth 65536 in
theorem w_ripe : about1.ripe theMethod args0 below0 = true := by decide +kernel
theorem w_running : about1.status = .running := rfl
set_option maxRecDepth 65536 in
theorem w_room : about1.hasRoom e0.platform room_1 = true :=
  launch0.hasRoom_least _ room_1 (by decide +kernel) (by decide +kernel) (by decide +kernel) (by decide +kernel) (by decide +kernel) (by decide +kernel)
theorem allAtoms_all (ts : List Jvm.Cond) (a : Array Jvm.Value) (st : Jvm.State) : (allAtoms ts).before a st = ts.all (fun c => c.before a st) := by
  induction ts with
  | nil => rfl
  | cons c t ih =>
    show (Jvm.Cond.and c (allAtoms t)).before a st = _
    rw [Jvm.Cond.before_and, ih, List.all_cons]
def words1 : List Jvm.Cond := Jvm.Cond.code x code maxLocals ret :: tables_1
/-- a 'code' word, met by the world's own term for the bytes: nothing is compared byte by byte -/
theorem code_word {y : MethodName} {bytes : ByteArray} {mx : Nat} {rt : Option FieldType} {a : Array Value} {s : State} {m : MethodId} {meth : Method} {c : Code} (h1 : s.methodNamed? y = some m) (h2 : s.vm.method? m = some meth) (h3 : meth.code = some c) (h4 : c.code = bytes)
    (h5 : (c.maxLocals == mx && c.exceptionTable.isEmpty && decide (c.maxStack ≤ mostOperands) && decide (meth.sig.returnType = rt) && !meth.locks && decide (parseMethodDescriptor y.desc = some meth.sig)) = true) : (Jvm.Cond.code y bytes mx rt).before a s = true := by
  simp only [Bool.and_eq_true, beq_iff_eq, Bool.not_eq_true', decide_eq_true_eq] at h5
  obtain ⟨⟨⟨⟨⟨g1, g2⟩, g3⟩, g4⟩, g5⟩, g6⟩ := h5
  simp [Cond.before, Cond.holds, Cond.value, h1, h2, h3, h4, g1, g2, g3, g4, g5, g6]
def isCode : Jvm.Cond → Bool
  | .code _ _ _ _ => true
  | _ => false
theorem all_split {L : List Jvm.Cond} {P : Jvm.Cond → Bool} (h1 : L.all (fun c => isCode c || P c) = true) (h2 : ∀ c ∈ L.filter isCode, P c = true) : L.all P = true := by
  refine List.all_eq_true.mpr fun c hc => ?_
  have h := List.all_eq_true.mp h1 c hc
  rcases Bool.eq_false_or_eq_true (isCode c) with hi | hi
  · exact h2 c (List.mem_filter.mpr ⟨hc, hi⟩)
  · simpa [hi] using h
set_option maxRecDepth 65536 in
theorem w_c0 : (Jvm.Cond.code x code maxLocals ret).before args0 about1 = true := code_word (m := ⟨1, 5⟩) (meth := k1m5) (c := k1c5) (by decide +kernel) rfl rfl rfl (by decide +kernel)
set_option maxRecDepth 65536 in
theorem w_c1 : (Jvm.Cond.code ({ cls := "com/example/cranfield/cranfield/model/DocumentEqualsPinLaw", name := "str", desc := "(ICC)Ljava/lang/String;" } : Jvm.MethodName) method_4_code (6 : Nat) (Option.some (Jvm.ClassFile.FieldType.object "java/lang/String"))).before args0 about1 = true := code_word (m := ⟨1, 3⟩) (meth := k1m3) (c := k1c3) (by decide +kernel) rfl rfl rfl (by decide +kernel)
set_option maxRecDepth 65536 in
theorem w_c2 : (Jvm.Cond.code ({ cls := "com/example/cranfield/cranfield/model/DocumentEqualsPinLaw", name := "len", desc := "(I)I" } : Jvm.MethodName) method_3_code (1 : Nat) (Option.some Jvm.ClassFile.FieldType.int)).before args0 about1 = true := code_word (m := ⟨1, 2⟩) (meth := k1m2) (c := k1c2) (by decide +kernel) rfl rfl rfl (by decide +kernel)
set_option maxRecDepth 65536 in
theorem w_c3 : (Jvm.Cond.code ({ cls := "com/example/cranfield/cranfield/model/DocumentEqualsPinLaw", name := "ch", desc := "(ICC)C" } : Jvm.MethodName) method_2_code (3 : Nat) (Option.some Jvm.ClassFile.FieldType.char)).before args0 about1 = true := code_word (m := ⟨1, 1⟩) (meth := k1m1) (c := k1c1) (by decide +kernel) rfl rfl rfl (by decide +kernel)
set_option maxRecDepth 65536 in
theorem w_c4 : (Jvm.Cond.code ({ cls := "java/lang/String", name := "<init>", desc := "([C)V" } : Jvm.MethodName) jdk_42_method_3_code (2 : Nat) (Option.none : Option Jvm.ClassFile.FieldType)).before args0 about1 = true := code_word (m := ⟨8, 1⟩) (meth := k8m1) (c := k8c1) (by decide +kernel) rfl rfl rfl (by decide +kernel)
set_option maxRecDepth 65536 in
theorem w_c5 : (Jvm.Cond.code ({ cls := "java/lang/String", name := "<init>", desc := "([CIILjava/lang/Void;)V" } : Jvm.MethodName) jdk_42_method_149_code (6 : Nat) (Option.none : Option Jvm.ClassFile.FieldType)).before args0 about1 = true := code_word (m := ⟨8, 3⟩) (meth := k8m3) (c := k8c3) (by decide +kernel) rfl rfl rfl (by decide +kernel)
set_option maxRecDepth 65536 in
theorem w_c6 : (Jvm.Cond.code ({ cls := "java/lang/Object", name := "<init>", desc := "()V" } : Jvm.MethodName) object_method_1_code (1 : Nat) (Option.none : Option Jvm.ClassFile.FieldType)).before args0 about1 = true := code_word (m := ⟨0, 0⟩) (meth := k0m0) (c := k0c0) (by decide +kernel) rfl rfl rfl (by decide +kernel)
set_option maxRecDepth 65536 in
theorem w_c7 : (Jvm.Cond.code ({ cls := "com/example/cranfield/cranfield/model/Document", name := "<init>", desc := "(Ljava/lang/String;Ljava/lang/String;Ljava/lang/String;)V" } : Jvm.MethodName) prog_56_method_2_code (4 : Nat) (Option.none : Option Jvm.ClassFile.FieldType)).before args0 about1 = true := code_word (m := ⟨2, 0⟩) (meth := k2m0) (c := k2c0) (by decide +kernel) rfl rfl rfl (by decide +kernel)
set_option maxRecDepth 65536 in
theorem w_c8 : (Jvm.Cond.code ({ cls := "java/util/Objects", name := "requireNonNull", desc := "(Ljava/lang/Object;Ljava/lang/String;)Ljava/lang/Object;" } : Jvm.MethodName) jdk_31_method_11_code (2 : Nat) (Option.some (Jvm.ClassFile.FieldType.object "java/lang/Object"))).before args0 about1 = true := code_word (m := ⟨9, 1⟩) (meth := k9m1) (c := k9c1) (by decide +kernel) rfl rfl rfl (by decide +kernel)
set_option maxRecDepth 65536 in
theorem w_c9 : (Jvm.Cond.code ({ cls := "com/example/cranfield/cranfield/model/DocumentEqualsPinLaw", name := "same", desc := "(IICC)Z" } : Jvm.MethodName) method_5_code (6 : Nat) (Option.some Jvm.ClassFile.FieldType.boolean)).before args0 about1 = true := code_word (m := ⟨1, 4⟩) (meth := k1m4) (c := k1c4) (by decide +kernel) rfl rfl rfl (by decide +kernel)
set_option maxRecDepth 65536 in
theorem w_c10 : (Jvm.Cond.code ({ cls := "com/example/cranfield/cranfield/model/Document", name := "equals", desc := "(Ljava/lang/Object;)Z" } : Jvm.MethodName) prog_56_method_6_code (3 : Nat) (Option.some Jvm.ClassFile.FieldType.boolean)).before args0 about1 = true := code_word (m := ⟨2, 1⟩) (meth := k2m1) (c := k2c1) (by decide +kernel) rfl rfl rfl (by decide +kernel)
set_option maxRecDepth 65536 in
theorem w_c11 : (Jvm.Cond.code ({ cls := "java/lang/String", name := "equals", desc := "(Ljava/lang/Object;)Z" } : Jvm.MethodName) jdk_42_method_66_code (3 : Nat) (Option.some Jvm.ClassFile.FieldType.boolean)).before args0 about1 = true := code_word (m := ⟨8, 2⟩) (meth := k8m2) (c := k8c2) (by decide +kernel) rfl rfl rfl (by decide +kernel)
set_option maxRecDepth 65536 in
theorem w_c12 : (Jvm.Cond.code ({ cls := "java/lang/StringLatin1", name := "equals", desc := "([B[B)Z" } : Jvm.MethodName) jdk_43_method_13_code (3 : Nat) (Option.some Jvm.ClassFile.FieldType.boolean)).before args0 about1 = true := code_word (m := ⟨10, 1⟩) (meth := k10m1) (c := k10c1) (by decide +kernel) rfl rfl rfl (by decide +kernel)
set_option maxRecDepth 65536 in
theorem w_c13 : (Jvm.Cond.code ({ cls := "java/lang/StringUTF16", name := "compress", desc := "([CII)[B" } : Jvm.MethodName) jdk_52_method_16_code (6 : Nat) (Option.some (Jvm.ClassFile.FieldType.array Jvm.ClassFile.FieldType.byte))).before args0 about1 = true := code_word (m := ⟨11, 2⟩) (meth := k11m2) (c := k11c2) (by decide +kernel) rfl rfl rfl (by decide +kernel)
set_option maxRecDepth 65536 in
theorem w_c14 : (Jvm.Cond.code ({ cls := "java/lang/StringUTF16", name := "compress", desc := "([CI[BII)I" } : Jvm.MethodName) jdk_52_method_21_code (7 : Nat) (Option.some Jvm.ClassFile.FieldType.int)).before args0 about1 = true := code_word (m := ⟨11, 3⟩) (meth := k11m3) (c := k11c3) (by decide +kernel) rfl rfl rfl (by decide +kernel)
set_option maxRecDepth 65536 in
theorem w_c15 : (Jvm.Cond.code ({ cls := "java/lang/StringUTF16", name := "coderFromArrayLen", desc := "([BI)B" } : Jvm.MethodName) jdk_52_method_15_code (2 : Nat) (Option.some Jvm.ClassFile.FieldType.byte)).before args0 about1 = true := code_word (m := ⟨11, 1⟩) (meth := k11m1) (c := k11c1) (by decide +kernel) rfl rfl rfl (by decide +kernel)
def codes1 : List Jvm.Cond := [Jvm.Cond.code x code maxLocals ret, Jvm.Cond.code ({ cls := "com/example/cranfield/cranfield/model/DocumentEqualsPinLaw", name := "str", desc := "(ICC)Ljava/lang/String;" } : Jvm.MethodName) method_4_code (6 : Nat) (Option.some (Jvm.ClassFile.FieldType.object "java/lang/String")), Jvm.Cond.code ({ cls := "com/example/cranfield/cranfield/model/DocumentEqualsPinLaw", name := "len", desc := "(I)I" } : Jvm.MethodName) method_3_code (1 : Nat) (Option.some Jvm.ClassFile.FieldType.int), Jvm.Cond.code ({ cls := "com/example/cranfield/cranfield/model/DocumentEqualsPinLaw", name := "ch", desc := "(ICC)C" } : Jvm.MethodName) method_2_code (3 : Nat) (Option.some Jvm.ClassFile.FieldType.char), Jvm.Cond.code ({ cls := "java/lang/String", name := "<init>", desc := "([C)V" } : Jvm.MethodName) jdk_42_method_3_code (2 : Nat) (Option.none : Option Jvm.ClassFile.FieldType), Jvm.Cond.code ({ cls := "java/lang/String", name := "<init>", desc := "([CIILjava/lang/Void;)V" } : Jvm.MethodName) jdk_42_method_149_code (6 : Nat) (Option.none : Option Jvm.ClassFile.FieldType), Jvm.Cond.code ({ cls := "java/lang/Object", name := "<init>", desc := "()V" } : Jvm.MethodName) object_method_1_code (1 : Nat) (Option.none : Option Jvm.ClassFile.FieldType), Jvm.Cond.code ({ cls := "com/example/cranfield/cranfield/model/Document", name := "<init>", desc := "(Ljava/lang/String;Ljava/lang/String;Ljava/lang/String;)V" } : Jvm.MethodName) prog_56_method_2_code (4 : Nat) (Option.none : Option Jvm.ClassFile.FieldType), Jvm.Cond.code ({ cls := "java/util/Objects", name := "requireNonNull", desc := "(Ljava/lang/Object;Ljava/lang/String;)Ljava/lang/Object;" } : Jvm.MethodName) jdk_31_method_11_code (2 : Nat) (Option.some (Jvm.ClassFile.FieldType.object "java/lang/Object")), Jvm.Cond.code ({ cls := "com/example/cranfield/cranfield/model/DocumentEqualsPinLaw", name := "same", desc := "(IICC)Z" } : Jvm.MethodName) method_5_code (6 : Nat) (Option.some Jvm.ClassFile.FieldType.boolean), Jvm.Cond.code ({ cls := "com/example/cranfield/cranfield/model/Document", name := "equals", desc := "(Ljava/lang/Object;)Z" } : Jvm.MethodName) prog_56_method_6_code (3 : Nat) (Option.some Jvm.ClassFile.FieldType.boolean), Jvm.Cond.code ({ cls := "java/lang/String", name := "equals", desc := "(Ljava/lang/Object;)Z" } : Jvm.MethodName) jdk_42_method_66_code (3 : Nat) (Option.some Jvm.ClassFile.FieldType.boolean), Jvm.Cond.code ({ cls := "java/lang/StringLatin1", name := "equals", desc := "([B[B)Z" } : Jvm.MethodName) jdk_43_method_13_code (3 : Nat) (Option.some Jvm.ClassFile.FieldType.boolean), Jvm.Cond.code ({ cls := "java/lang/StringUTF16", name := "compress", desc := "([CII)[B" } : Jvm.MethodName) jdk_52_method_16_code (6 : Nat) (Option.some (Jvm.ClassFile.FieldType.array Jvm.ClassFile.FieldType.byte)), Jvm.Cond.code ({ cls := "java/lang/StringUTF16", name := "compress", desc := "([CI[BII)I" } : Jvm.MethodName) jdk_52_method_21_code (7 : Nat) (Option.some Jvm.ClassFile.FieldType.int), Jvm.Cond.code ({ cls := "java/lang/StringUTF16", name := "coderFromArrayLen", desc := "([BI)B" } : Jvm.MethodName) jdk_52_method_15_code (2 : Nat) (Option.some Jvm.ClassFile.FieldType.byte)]
set_option maxRecDepth 65536 in
theorem codes_eq : words1.filter isCode = codes1 := rfl
theorem w_codes : ∀ c ∈ words1.filter isCode, c.before args0 about1 = true := by
  rw [codes_eq]
  intro c hc
  simp only [codes1, List.mem_cons, List.not_mem_nil, or_false] at hc
  rcases hc with rfl | rfl | rfl | rfl | rfl | rfl | rfl | rfl | rfl | rfl | rfl | rfl | rfl | rfl | rfl | rfl
  · exact w_c0
  · exact w_c1
  · exact w_c2
  · exact w_c3
  · exact w_c4
  · exact w_c5
  · exact w_c6
  · exact w_c7
  · exact w_c8
  · exact w_c9
  · exact w_c10
  · exact w_c11
  · exact w_c12
  · exact w_c13
  · exact w_c14
  · exact w_c15
set_option maxRecDepth 65536 in
theorem w_t1 : (words1.take 24).all (fun c => isCode c || c.before args0 about1) = true := by decide +kernel
set_option maxRecDepth 65536 in
theorem w_t2 : ((words1.drop 24).take 24).all (fun c => isCode c || c.before args0 about1) = true := by decide +kernel
set_option maxRecDepth 65536 in
theorem w_t3 : (((words1.drop 24).drop 24).take 24).all (fun c => isCode c || c.before args0 about1) = true := by decide +kernel
set_option maxRecDepth 65536 in
theorem w_t4 : (((words1.drop 24).drop 24).drop 24).all (fun c => isCode c || c.before args0 about1) = true := by decide +kernel
theorem w_tables : (allAtoms (Jvm.Cond.code x code maxLocals ret :: tables_1)).before args0 about1 = true := by
  rw [allAtoms_all]
  show words1.all (fun c => c.before args0 about1) = true
  refine all_split ?_ w_codes
  rw [← List.take_append_drop 24 words1, List.all_append, w_t1, ← List.take_append_drop 24 (words1.drop 24), List.all_append, w_t2, ← List.take_append_drop 24 ((words1.drop 24).drop 24), List.all_append, w_t3, w_t4]
  rfl
set_option maxRecDepth 65536 in
theorem w_rest : rest_1_c.before args0 about1 = true := by decide +kernel
set_option maxRecDepth 65536 in
theorem w_case : (Jvm.Cond.and given_1 narrow_1).before args0 about1 = true := by decide +kernel
set_option maxRecDepth 65536 in
theorem w_consts : constsHeld consts_1 about1 := Jvm.Lit.constsHeldB_iff.mp (by decide +kernel)
theorem w_applies : (headSpec (Jvm.Cond.code x code maxLocals ret :: tables_1) room_1).applies x e0.platform about1 = true :=
  (Spec.applies_iff w_frames).mpr ⟨w_running, w_runnable, w_alone, w_named, w_hears, w_ripe, w_room, w_tables⟩
theorem atStart : AtStart classFile x code maxLocals ret World_1 tables_1 room_1 Calls_1 rest_1 Pre_1 launch0 p0 e0 about1 theMethod args0 below0 :=
  ⟨lists_1, trivial, launch0.admits_env _ _ _, launch0.least_env, fairChoices_fair.cas, fairChoices_fair.clock, w_frames, w_args, w_heap, w_applies, ⟨w_consts, trivial⟩, w_rest, w_case⟩
end start1
theorem witness_1 : WitnessClaimed_1 := ⟨start1.p0, start1.e0, start1.about1, start1.theMethod, start1.args0, start1.below0, start1.atStart⟩
end Jvm.Pilot.@@N@@
