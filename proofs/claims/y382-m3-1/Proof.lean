import JvmDerived
import JvmDerived.Pilot.@@N@@Statement
import JvmDerived.Pilot.@@N@@Code
set_option linter.unusedVariables false
set_option linter.unusedSimpArgs false
namespace Jvm.RoadKit
open Sem ClassFile Op Lib Jvm.Stand Jvm.Free Jvm.LawKit
section New
variable {p : Program} {l : Launch} {e : Env} {R : Room} {s : State} {m : MethodId} {args : Array Value} {below : List Frame} {meth : Method} {c : Code} {T : State} {locs : List Loc} {cells slots : Nat}
theorem retI (X : Stand p l e R s m args below meth c T locs cells slots) (hx : p.tables.exec = Jvm.exec) {pc : Nat} {Ls : Array Slot} {z : Int32} {rest : List Value} (hret : meth.sig.returnType = some .int) (hd : decode c.code pc = .ok (.ireturn, 1)) {fs : List Frame}
    (hl : ∀ (f : JFrame) (acts : List Action), f.method = m → f.locked = none → f.entered = [] → (doReturn e (T.setTop f) acts (some (.int z))).1 = T.setFrames fs) : Steps p.tables e below (T.setTop (mkF m pc Ls (.int z :: rest))) (T.setFrames fs) := by
  have hm' : T.vm.method? m = some meth := X.method'
  have hn : narrow .int (.int z) = .int z := rfl
  show Steps p.tables e below (T.setTop { method := m, pc := pc, locals := Ls, stack := _ :: rest, locked := none }) _
  jvm_step X.here [X.here.top, hx, hd, hm', hret, hn]
  first | (intro acts; rw [hl _ acts rfl rfl rfl]) | rw [hl _ _ rfl rfl rfl]
  exact Steps.refl _
theorem retJ (X : Stand p l e R s m args below meth c T locs cells slots) (hx : p.tables.exec = Jvm.exec) {pc : Nat} {Ls : Array Slot} {z : Int64} {rest : List Value} (hret : meth.sig.returnType = some .long) (hd : decode c.code pc = .ok (.lreturn, 1)) {fs : List Frame}
    (hl : ∀ (f : JFrame) (acts : List Action), f.method = m → f.locked = none → f.entered = [] → (doReturn e (T.setTop f) acts (some (.long z))).1 = T.setFrames fs) : Steps p.tables e below (T.setTop (mkF m pc Ls (.long z :: rest))) (T.setFrames fs) := by
  have hm' : T.vm.method? m = some meth := X.method'
  have hn : narrow .long (.long z) = .long z := rfl
  show Steps p.tables e below (T.setTop { method := m, pc := pc, locals := Ls, stack := _ :: rest, locked := none }) _
  jvm_step X.here [X.here.top, hx, hd, hm', hret, hn]
  first | (intro acts; rw [hl _ acts rfl rfl rfl]) | rw [hl _ _ rfl rfl rfl]
  exact Steps.refl _
end New
end Jvm.RoadKit
/- laws to paste: Road.backV, Road.eqW, Road.codOf (cut by pick.py; bodies as the Statement names them) -/
namespace Jvm.Pilot.@@N@@
namespace StrChars
open Jvm Sem ClassFile Op Lib Jvm.Stand Jvm.Free.XT Jvm.Free.ALB Jvm.Free.JM Jvm.Free
open Jvm.Lib.Cold (StaticIs)
/-- a char array whose places are chars -/
def Ch (a : Addr) (A : Cell) (U : State) : Prop := Arr .char a A U ∧ Typed .char A
theorem Ch.mv {a : Addr} {A : Cell} {U U' : State} (h : Ch a A U) (hal : U.vm.Alike U'.vm) (hh : U'.heap = U.heap) : Ch a A U' := ⟨h.1.mv hal hh, h.2⟩
theorem Ch.keep {a : Addr} {A : Cell} {U U' : State} (h : Ch a A U) (hal : U.vm.Alike U'.vm) (hk : U'.heap[a]? = some A) : Ch a A U' := ⟨h.1.keep hal hk, h.2⟩
/-- what place i of a char[]'s cell holds -/
def cv (A : Cell) (i : Nat) : Int32 := match A.slots[i]? with | some (.int x) => x | _ => 0
theorem Ch.get {a : Addr} {A : Cell} {U : State} (h : Ch a A U) {i : Nat} (hi : i < A.slots.size) : A.slots[i]? = some (.int (cv A i)) := by
  have e := Array.getElem?_eq_getElem hi
  have f := h.2 i _ e
  unfold cv; rw [e]
  generalize A.slots[i] = v at f
  cases v <;> simp [fits] at f ⊢
/-- the byte that i2b leaves of a char -/
def lo8 (x : Int32) : Int32 := x.toInt8.toInt32
theorem fits_lo8 (y : Int32) : fits .byte (.int (lo8 y)) = true := by
  have h1 := y.toInt8.le_toInt
  have h2 := y.toInt8.toInt_lt
  simp only [lo8, fits, Bool.and_eq_true, decide_eq_true_eq, Int32.le_iff_toInt_le, Int8.toInt_toInt32, show (-128 : Int32).toInt = -128 from by decide, show (127 : Int32).toInt = 127 from by decide]
  omega
/-- A' is A but that each place j of lo .. hi - 1 holds f j -/
def Laid (A A' : Cell) (lo hi : Nat) (f : Nat → Value) : Prop := A'.cls = A.cls ∧ A'.vm = A.vm ∧ A'.slots.size = A.slots.size ∧ ∀ i, A'.slots[i]? = if lo ≤ i ∧ i < hi then some (f i) else A.slots[i]?
theorem Laid.zero (A : Cell) (lo : Nat) (f : Nat → Value) : Laid A A lo (lo + 0) f := ⟨rfl, rfl, rfl, fun i => by rw [if_neg (by omega)]⟩
theorem Laid.step {A Ak : Cell} {lo k : Nat} {f : Nat → Value} {v : Value} (h : Laid A Ak lo k f) (hlo : lo ≤ k) (hk : k < Ak.slots.size) (hv : v = f k) : Laid A (Ak.setSlot k v) lo (k + 1) f := by
  refine ⟨h.1, h.2.1, by simpa [Cell.setSlot] using h.2.2.1, fun i => ?_⟩
  by_cases e : k = i
  · subst e; rw [Cell.slots_setSlot_self v hk, if_pos (by omega), hv]
  · rw [Cell.slots_setSlot_ne v e, h.2.2.2 i]
    by_cases q : lo ≤ i ∧ i < k
    · rw [if_pos q, if_pos (by omega)]
    · rw [if_neg q, if_neg (by omega)]
def U16 : String := "java/lang/StringUTF16"
namespace Cmp5
def yN : MethodName := ⟨"java/lang/StringUTF16", "compress", "([CI[BII)I"⟩
abbrev yB : ByteArray := jdk_52_method_21_code
theorem d0 : decode yB 0 = .ok (.iconst 0, 1) := by decide +kernel
theorem d1 : decode yB 1 = .ok (.istore 5, 2) := by decide +kernel
theorem d3 : decode yB 3 = .ok (.iload 5, 2) := by decide +kernel
theorem d5 : decode yB 5 = .ok (.iload 4, 2) := by decide +kernel
theorem d7 : decode yB 7 = .ok (.if_icmp (.ge) 37, 3) := by decide +kernel
theorem d10 : decode yB 10 = .ok (.aload_n 0, 1) := by decide +kernel
theorem d11 : decode yB 11 = .ok (.iload_n 1, 1) := by decide +kernel
theorem d12 : decode yB 12 = .ok (.caload, 1) := by decide +kernel
theorem d13 : decode yB 13 = .ok (.istore 6, 2) := by decide +kernel
theorem d15 : decode yB 15 = .ok (.iload 6, 2) := by decide +kernel
theorem d17 : decode yB 17 = .ok (.sipush 255, 3) := by decide +kernel
theorem d20 : decode yB 20 = .ok (.if_icmp (.le) 6, 3) := by decide +kernel
theorem d26 : decode yB 26 = .ok (.aload_n 2, 1) := by decide +kernel
theorem d27 : decode yB 27 = .ok (.iload_n 3, 1) := by decide +kernel
theorem d28 : decode yB 28 = .ok (.iload 6, 2) := by decide +kernel
theorem d30 : decode yB 30 = .ok (.i2b, 1) := by decide +kernel
theorem d31 : decode yB 31 = .ok (.bastore, 1) := by decide +kernel
theorem d32 : decode yB 32 = .ok (.iinc 1 1, 3) := by decide +kernel
theorem d35 : decode yB 35 = .ok (.iinc 3 1, 3) := by decide +kernel
theorem d38 : decode yB 38 = .ok (.iinc 5 1, 3) := by decide +kernel
theorem d41 : decode yB 41 = .ok (.goto (-38), 3) := by decide +kernel
theorem d44 : decode yB 44 = .ok (.iload 4, 2) := by decide +kernel
theorem d46 : decode yB 46 = .ok (.ireturn, 1) := by decide +kernel
def site : List Cond := []
def tab : Cond := tabOf yN yB 7 (some .int) site
def P (b : Addr) (A : Cell) (d : Addr) (B : Cell) (o q len : Nat) (args : Array Value) (s : State) : Prop := args = #[.ref b, .int (Int32.ofNat o), .ref d, .int (Int32.ofNat q), .int (Int32.ofNat len)] ∧ Ch b A s ∧ Arr .byte d B s ∧ b ≠ d ∧ o + len ≤ A.slots.size ∧ q + len ≤ B.slots.size ∧ ∀ i, i < len → ¬ 255 < cv A (o + i)
def E (b : Addr) (A : Cell) (d : Addr) (B : Cell) (o q len : Nat) (r : Option Value) (s u : State) : Prop := r = some (.int (Int32.ofNat len)) ∧ ∃ B', Put d B' s u ∧ Laid B B' q (q + len) (fun j => Value.int (lo8 (cv A (o + (j - q)))))
/-- no char of the range above 255: len; the places written hold each char's low byte -/
theorem law (l : Launch) (b : Addr) (A : Cell) (d : Addr) (B : Cell) (o q len : Nat) : Law l yN 5 5 0 0 yB 7 (some .int) site (P b A d B o q len) (E b A d B o q len) (copyLocs d q len) 0 0 := by
  refine Law.of_walk (plainFor_of_name (by decide +kernel)) (by decide +kernel) (by decide +kernel) (by decide) (fun _ _ h => by rw [h.1]; rfl) (fun _ U U' hal hh h => ⟨h.1, h.2.1.mv hal hh, h.2.2.1.mv hal hh, h.2.2.2⟩) (fun r U U' V V' h1 hal h2 h => ⟨h.1, h.2.elim fun B' q => ⟨B', q.1.mv h1 h2, q.2⟩⟩) ?_
  intro p e s m args below meth c s₁ X0 hexec hbytes hml hret hlk hnm hown hh0 W hP
  obtain ⟨rfl, hA, hB, hne, l1, l2, hp⟩ := hP
  have c1 : Steps p.tables e below (s₁.setTop (entryFrame m #[.ref b, .int (Int32.ofNat o), .ref d, .int (Int32.ofNat q), .int (Int32.ofNat len)] 7)) (s₁.setTop (mkF m 0 #[.val (.ref b), .val (.int (Int32.ofNat o)), .val (.ref d), .val (.int (Int32.ofNat q)), .val (.int (Int32.ofNat len)), .unset, .unset] [])) := entry rfl
  have hA0 := hA.1.mv X0.warmed.alike hh0
  have hB0 := hB.mv X0.warmed.alike hh0
  have a31 := hA.1.2.2.2
  have c2 : Steps p.tables e below (s₁.setTop (entryFrame m #[.ref b, .int (Int32.ofNat o), .ref d, .int (Int32.ofNat q), .int (Int32.ofNat len)] 7)) (s₁.setTop (mkF m 3 #[.val (.ref b), .val (.int (Int32.ofNat o)), .val (.ref d), .val (.int (Int32.ofNat q)), .val (.int (Int32.ofNat len)), .val (.int 0), .unset] [])) := c1.trans (by
    refine iconstV X0.here hexec rfl 0 (hb hbytes d0) (by decide) ?_
    refine XS.istore X0.here hexec rfl (hb hbytes d1) rfl rfl ?_
    exact Steps.refl _)
  have loop : ∀ (r i : Nat), i + r = len → ∀ (z : Slot), (z = .unset ∨ ∃ w, z = .val w ∧ w.category = 1) → ∀ (Tl : State) (Bk : Cell), Stand p l e { frames := 0, locals := 0, cells := 0, slots := 0 } s m #[.ref b, .int (Int32.ofNat o), .ref d, .int (Int32.ofNat q), .int (Int32.ofNat len)] below meth c Tl ([] ++ copyLocs d q i) 0 0 → Put d Bk s₁ Tl → Laid B Bk q (q + i) (fun j => Value.int (lo8 (cv A (o + (j - q))))) →
      Steps p.tables e below (s₁.setTop (entryFrame m #[.ref b, .int (Int32.ofNat o), .ref d, .int (Int32.ofNat q), .int (Int32.ofNat len)] 7)) (Tl.setTop (mkF m 3 #[.val (.ref b), .val (.int (Int32.ofNat (o + i))), .val (.ref d), .val (.int (Int32.ofNat (q + i))), .val (.int (Int32.ofNat len)), .val (.int (Int32.ofNat i)), z] [])) → ∃ (T' : State) (B' : Cell) (z' : Slot), Stand p l e { frames := 0, locals := 0, cells := 0, slots := 0 } s m #[.ref b, .int (Int32.ofNat o), .ref d, .int (Int32.ofNat q), .int (Int32.ofNat len)] below meth c T' ([] ++ copyLocs d q len) 0 0 ∧ Put d B' s₁ T' ∧ Laid B B' q (q + len) (fun j => Value.int (lo8 (cv A (o + (j - q))))) ∧
      Steps p.tables e below (s₁.setTop (entryFrame m #[.ref b, .int (Int32.ofNat o), .ref d, .int (Int32.ofNat q), .int (Int32.ofNat len)] 7)) (T'.setTop (mkF m 3 #[.val (.ref b), .val (.int (Int32.ofNat (o + len))), .val (.ref d), .val (.int (Int32.ofNat (q + len))), .val (.int (Int32.ofNat len)), .val (.int (Int32.ofNat len)), z'] [])) := by
    intro r
    induction r with
    | zero =>
      intro i hi z hz Tl Bk Xl pl fl cl
      have hil : i = len := by omega
      rw [hil] at Xl fl cl
      exact ⟨Tl, Bk, z, Xl, pl, fl, cl⟩
    | succ r ih =>
      intro i hi z hz Tl Bk Xl pl fl cl
      have all := X0.warmed.alike.symm.trans Xl.warmed.alike
      have hAl := hA0.keep all (pl.other hne hA0.1)
      have hBk := hB0.like all pl.1 fl.1 fl.2.1 fl.2.2.1
      have hlt : q + i < Bk.slots.size := by rw [fl.2.2.1]; omega
      have c3 : Steps p.tables e below (s₁.setTop (entryFrame m #[.ref b, .int (Int32.ofNat o), .ref d, .int (Int32.ofNat q), .int (Int32.ofNat len)] 7)) (Tl.setTop (mkF m 12 #[.val (.ref b), .val (.int (Int32.ofNat (o + i))), .val (.ref d), .val (.int (Int32.ofNat (q + i))), .val (.int (Int32.ofNat len)), .val (.int (Int32.ofNat i)), z] [.int (Int32.ofNat (o + i)), .ref b])) := cl.trans (by
        refine XS.iload Xl.here hexec rfl (hb hbytes d3) rfl ?_
        refine XS.iload Xl.here hexec rfl (hb hbytes d5) rfl ?_
        refine XS.icmpNo Xl.here hexec rfl (hb hbytes d7) rfl (ii_ge_f (lt32 (by omega) (by omega))) ?_
        refine XS.aloadN Xl.here hexec rfl (hb hbytes d10) rfl rfl ?_
        refine XS.iloadN Xl.here hexec rfl (hb hbytes d11) rfl ?_
        exact Steps.refl _)
      have c4 : Steps p.tables e below (s₁.setTop (entryFrame m #[.ref b, .int (Int32.ofNat o), .ref d, .int (Int32.ofNat q), .int (Int32.ofNat len)] 7)) (Tl.setTop (mkF m 13 #[.val (.ref b), .val (.int (Int32.ofNat (o + i))), .val (.ref d), .val (.int (Int32.ofNat (q + i))), .val (.int (Int32.ofNat len)), .val (.int (Int32.ofNat i)), z] [.int (cv A (o + i))])) := c3.trans (by
        refine Xl.aget hexec hAl rfl (hA.get (i := o + i) (by omega)) rfl rfl (hb hbytes d12) ?_
        exact Steps.refl _)
      have c5 : Steps p.tables e below (s₁.setTop (entryFrame m #[.ref b, .int (Int32.ofNat o), .ref d, .int (Int32.ofNat q), .int (Int32.ofNat len)] 7)) (Tl.setTop (mkF m 15 #[.val (.ref b), .val (.int (Int32.ofNat (o + i))), .val (.ref d), .val (.int (Int32.ofNat (q + i))), .val (.int (Int32.ofNat len)), .val (.int (Int32.ofNat i)), .val (.int (cv A (o + i)))] [])) := c4.trans (by
        refine XS.istoreS Xl.here hexec rfl (hb hbytes d13) rfl rfl hz ?_
        exact Steps.refl _)
      have c6 : Steps p.tables e below (s₁.setTop (entryFrame m #[.ref b, .int (Int32.ofNat o), .ref d, .int (Int32.ofNat q), .int (Int32.ofNat len)] 7)) (Tl.setTop (mkF m 31 #[.val (.ref b), .val (.int (Int32.ofNat (o + i))), .val (.ref d), .val (.int (Int32.ofNat (q + i))), .val (.int (Int32.ofNat len)), .val (.int (Int32.ofNat i)), .val (.int (cv A (o + i)))] [.int (lo8 (cv A (o + i))), .int (Int32.ofNat (q + i)), .ref d])) := c5.trans (by
        refine XS.iload Xl.here hexec rfl (hb hbytes d15) rfl ?_
        refine sipushV Xl.here hexec rfl 255 (hb hbytes d17) (by decide) ?_
        refine XS.icmpYes Xl.here hexec rfl (pc0 := 20) rfl (hb hbytes d20) rfl (ii_le_t (hp i (by omega))) (by decide) rfl ?_
        refine XS.aloadN Xl.here hexec rfl (hb hbytes d26) rfl rfl ?_
        refine XS.iloadN Xl.here hexec rfl (hb hbytes d27) rfl ?_
        refine XS.iload Xl.here hexec rfl (hb hbytes d28) rfl ?_
        refine i2b Xl.here hexec rfl (hb hbytes d30) rfl ?_
        exact Steps.refl _)
      obtain ⟨T7, X7, p7, st7⟩ := Xl.aput hexec hBk rfl hlt rfl (fits_lo8 (cv A (o + i))) (g := (mkF m 31 #[.val (.ref b), .val (.int (Int32.ofNat (o + i))), .val (.ref d), .val (.int (Int32.ofNat (q + i))), .val (.int (Int32.ofNat len)), .val (.int (Int32.ofNat i)), .val (.int (cv A (o + i)))] [.int (lo8 (cv A (o + i))), .int (Int32.ofNat (q + i)), .ref d])) rfl (rest := []) rfl (hb hbytes d31)
      have c8 : Steps p.tables e below (s₁.setTop (entryFrame m #[.ref b, .int (Int32.ofNat o), .ref d, .int (Int32.ofNat q), .int (Int32.ofNat len)] 7)) (T7.setTop (mkF m 32 #[.val (.ref b), .val (.int (Int32.ofNat (o + i))), .val (.ref d), .val (.int (Int32.ofNat (q + i))), .val (.int (Int32.ofNat len)), .val (.int (Int32.ofNat i)), .val (.int (cv A (o + i)))] [])) := c6.trans (st7 _ (Steps.refl _))
      have c9 : Steps p.tables e below (s₁.setTop (entryFrame m #[.ref b, .int (Int32.ofNat o), .ref d, .int (Int32.ofNat q), .int (Int32.ofNat len)] 7)) (T7.setTop (mkF m 3 #[.val (.ref b), .val (.int (Int32.ofNat (o + i) + 1)), .val (.ref d), .val (.int (Int32.ofNat (q + i) + 1)), .val (.int (Int32.ofNat len)), .val (.int (Int32.ofNat i + 1)), .val (.int (cv A (o + i)))] [])) := c8.trans (by
        refine iincV X7.here hexec rfl 1 (hb hbytes d32) (by decide) rfl rfl ?_
        refine iincV X7.here hexec rfl 1 (hb hbytes d35) (by decide) rfl rfl ?_
        refine iincV X7.here hexec rfl 1 (hb hbytes d38) (by decide) rfl rfl ?_
        refine XS.goto X7.here hexec rfl (pc0 := 41) rfl (hb hbytes d41) (by decide) rfl ?_
        exact Steps.refl _)
      have c10 : Steps p.tables e below (s₁.setTop (entryFrame m #[.ref b, .int (Int32.ofNat o), .ref d, .int (Int32.ofNat q), .int (Int32.ofNat len)] 7)) (T7.setTop (mkF m 3 #[.val (.ref b), .val (.int (Int32.ofNat (o + (i + 1)))), .val (.ref d), .val (.int (Int32.ofNat (q + (i + 1)))), .val (.int (Int32.ofNat len)), .val (.int (Int32.ofNat (i + 1))), .val (.int (cv A (o + i)))] [])) := by
        have := c9
        rw [succ32, succ32, succ32] at this
        exact this
      exact ih (i + 1) (by omega) _ (Or.inr ⟨_, rfl, rfl⟩) T7 _ (by rw [copyLocs_step, ← List.append_assoc]; exact X7) (pl.trans p7) (fl.step (by omega) hlt (by simp)) c10
  obtain ⟨T9, B9, z9, X9, p9, f9, g9⟩ := loop len 0 (by omega) .unset (Or.inl rfl) s₁ B (by simpa [copyLocs] using X0) ⟨hB0.1, fun _ _ => rfl, rfl⟩ (Laid.zero _ _ _) c2
  have c11 : Steps p.tables e below (s₁.setTop (entryFrame m #[.ref b, .int (Int32.ofNat o), .ref d, .int (Int32.ofNat q), .int (Int32.ofNat len)] 7)) (T9.setTop (mkF m 46 #[.val (.ref b), .val (.int (Int32.ofNat (o + len))), .val (.ref d), .val (.int (Int32.ofNat (q + len))), .val (.int (Int32.ofNat len)), .val (.int (Int32.ofNat len)), z9] [.int (Int32.ofNat len)])) := g9.trans (by
    refine XS.iload X9.here hexec rfl (hb hbytes d3) rfl ?_
    refine XS.iload X9.here hexec rfl (hb hbytes d5) rfl ?_
    refine XS.icmpYes X9.here hexec rfl (pc0 := 7) rfl (hb hbytes d7) rfl (ii_ge_t (nlt32 (by omega) (Nat.le_refl _))) (by decide) rfl ?_
    refine XS.iload X9.here hexec rfl (hb hbytes d44) rfl ?_
    exact Steps.refl _)
  exact ⟨T9, some (.int (Int32.ofNat len)), _, _, _, X9, by simp, rfl, rfl, (fun h => by cases h), ⟨rfl, B9, p9.from hh0, f9⟩, fun fs hl => c11.trans (X9.ireturnOut hexec hret rfl (Or.inl rfl) (hb hbytes d46) hl)⟩
end Cmp5
namespace Cmp3
def yN : MethodName := ⟨"java/lang/StringUTF16", "compress", "([CII)[B"⟩
abbrev yB : ByteArray := jdk_52_method_16_code
theorem d0 : decode yB 0 = .ok (.iload_n 2, 1) := by decide +kernel
theorem d1 : decode yB 1 = .ok (.newarray .byte, 2) := by decide +kernel
theorem d3 : decode yB 3 = .ok (.astore_n 3, 1) := by decide +kernel
theorem d4 : decode yB 4 = .ok (.aload_n 0, 1) := by decide +kernel
theorem d5 : decode yB 5 = .ok (.iload_n 1, 1) := by decide +kernel
theorem d6 : decode yB 6 = .ok (.aload_n 3, 1) := by decide +kernel
theorem d7 : decode yB 7 = .ok (.iconst 0, 1) := by decide +kernel
theorem d8 : decode yB 8 = .ok (.iload_n 2, 1) := by decide +kernel
theorem d9 : decode yB 9 = .ok (.invokestatic 115, 3) := by decide +kernel
theorem d12 : decode yB 12 = .ok (.istore 4, 2) := by decide +kernel
theorem d14 : decode yB 14 = .ok (.iload 4, 2) := by decide +kernel
theorem d16 : decode yB 16 = .ok (.iload_n 2, 1) := by decide +kernel
theorem d17 : decode yB 17 = .ok (.if_icmp (.eq) 40, 3) := by decide +kernel
theorem d57 : decode yB 57 = .ok (.aload_n 3, 1) := by decide +kernel
theorem d58 : decode yB 58 = .ok (.areturn, 1) := by decide +kernel
def site : List Cond := [.arrayClass .byte, Cmp5.tab] ++ staticW U16 115 Cmp5.yN
def tab : Cond := tabOf yN yB 6 (some (.array .byte)) site
def P (b : Addr) (A : Cell) (o len : Nat) (args : Array Value) (s : State) : Prop := args = #[.ref b, .int (Int32.ofNat o), .int (Int32.ofNat len)] ∧ Ch b A s ∧ o + len ≤ A.slots.size ∧ len ≤ 536870912 ∧ ∀ i, i < len → ¬ 255 < cv A (o + i)
def E (b : Addr) (A : Cell) (o len : Nat) (r : Option Value) (s u : State) : Prop := NewArr .byte "[B" len (fun j => .int (lo8 (cv A (o + j)))) r s u ∧ u.heap.size = s.heap.size + 1
/-- no char of the range above 255: a new byte[] of their low bytes -/
theorem law (l : Launch) (b : Addr) (A : Cell) (o len : Nat) : Law l yN 3 3 1 18 yB 6 (some (.array .byte)) site (P b A o len) (E b A o len) [] 1 len := by
  refine Law.of_walk (plainFor_of_name (by decide +kernel)) (by decide +kernel) (by decide +kernel) (by decide) (fun _ _ h => by rw [h.1]; rfl) (fun _ U U' hal hh h => ⟨h.1, h.2.1.mv hal hh, h.2.2⟩) (fun r U U' V V' h1 hal h2 h => ⟨NewArr.mv r U U' V V' h1 hal h2 h.1, by rw [h1, h2]; exact h.2⟩) ?_
  intro p e s m args below meth c s₁ X0 hexec hbytes hml hret hlk hnm hown hh0 W hP
  obtain ⟨rfl, hA, l1, l2, hp⟩ := hP
  have a31 := hA.1.2.2.2
  have c1 : Steps p.tables e below (s₁.setTop (entryFrame m #[.ref b, .int (Int32.ofNat o), .int (Int32.ofNat len)] 6)) (s₁.setTop (mkF m 0 #[.val (.ref b), .val (.int (Int32.ofNat o)), .val (.int (Int32.ofNat len)), .unset, .unset, .unset] [])) := entry rfl
  have c2 : Steps p.tables e below (s₁.setTop (entryFrame m #[.ref b, .int (Int32.ofNat o), .int (Int32.ofNat len)] 6)) (s₁.setTop (mkF m 1 #[.val (.ref b), .val (.int (Int32.ofNat o)), .val (.int (Int32.ofNat len)), .unset, .unset, .unset] [.int (Int32.ofNat len)])) := c1.trans (by
    refine XS.iloadN X0.here hexec rfl (hb hbytes d0) rfl ?_
    exact Steps.refl _)
  obtain ⟨T3, B3, X3, ba3, bs3, bv3, bh3, bf3, st3⟩ := X0.anew hexec (atype := .byte) (wk W (.arrayClass .byte)) rfl (by show len * 1 ≤ _; omega) (by omega) (g := (mkF m 1 #[.val (.ref b), .val (.int (Int32.ofNat o)), .val (.int (Int32.ofNat len)), .unset, .unset, .unset] [.int (Int32.ofNat len)])) rfl (hb hbytes d1) (rest := []) rfl (Nat.le_refl _) (by show 0 + len ≤ len; omega)
  rw [hh0] at ba3 st3
  have kp3 : XT.Kept s T3 := (XT.Kept.of_eq hh0).push bh3
  have hA3 := hA.keep X3.warmed.alike (kp3 _ _ hA.1.1)
  have hne : b ≠ s.heap.size := hA.1.ne
  have c4 : Steps p.tables e below (s₁.setTop (entryFrame m #[.ref b, .int (Int32.ofNat o), .int (Int32.ofNat len)] 6)) (T3.setTop (mkF m 3 #[.val (.ref b), .val (.int (Int32.ofNat o)), .val (.int (Int32.ofNat len)), .unset, .unset, .unset] [.ref s.heap.size])) := c2.trans (st3 _ (Steps.refl _))
  have c5 : Steps p.tables e below (s₁.setTop (entryFrame m #[.ref b, .int (Int32.ofNat o), .int (Int32.ofNat len)] 6)) (T3.setTop (mkF m 9 #[.val (.ref b), .val (.int (Int32.ofNat o)), .val (.int (Int32.ofNat len)), .val (.ref s.heap.size), .unset, .unset] [.int (Int32.ofNat len), .int 0, .ref s.heap.size, .int (Int32.ofNat o), .ref b])) := c4.trans (by
    refine XS.astoreN X3.here hexec rfl (hb hbytes d3) rfl rfl rfl ?_
    refine XS.aloadN X3.here hexec rfl (hb hbytes d4) rfl rfl ?_
    refine XS.iloadN X3.here hexec rfl (hb hbytes d5) rfl ?_
    refine XS.aloadN X3.here hexec rfl (hb hbytes d6) rfl rfl ?_
    refine iconstV X3.here hexec rfl 0 (hb hbytes d7) (by decide) ?_
    refine XS.iloadN X3.here hexec rfl (hb hbytes d8) rfl ?_
    exact Steps.refl _)
  obtain ⟨v6, T6, X6, E6, g6⟩ := X3.callS hexec (Cmp5.law l b A s.heap.size B3 o 0 len) hown (wks W (staticW U16 115 Cmp5.yN)) (wk W Cmp5.tab) (W := 0) (Nat.le_of_ble_eq_true rfl) (Nat.le_of_ble_eq_true rfl) (Nat.le_refl _) (by show 0 + len + 0 ≤ len; omega) (g := (mkF m 9 #[.val (.ref b), .val (.int (Int32.ofNat o)), .val (.int (Int32.ofNat len)), .val (.ref s.heap.size), .unset, .unset] [.int (Int32.ofNat len), .int (Int32.ofNat 0), .ref s.heap.size, .int (Int32.ofNat o), .ref b])) rfl (by rw [hml]; rfl) c5 (argsL := [.ref b, .int (Int32.ofNat o), .ref s.heap.size, .int (Int32.ofNat 0), .int (Int32.ofNat len)]) (rest := []) rfl rfl (by show 2 * 0 + 0 ≤ _; decide) (hb hbytes d9) (⟨rfl, hA3, ba3, hne, l1, by rw [bs3]; simp, hp⟩)
  obtain ⟨rfl, B6, p6, f6⟩ := E6
  have c7 : Steps p.tables e below (s₁.setTop (entryFrame m #[.ref b, .int (Int32.ofNat o), .int (Int32.ofNat len)] 6)) (T6.setTop (mkF m 12 #[.val (.ref b), .val (.int (Int32.ofNat o)), .val (.int (Int32.ofNat len)), .val (.ref s.heap.size), .unset, .unset] [.int (Int32.ofNat len)])) := g6
  have c8 : Steps p.tables e below (s₁.setTop (entryFrame m #[.ref b, .int (Int32.ofNat o), .int (Int32.ofNat len)] 6)) (T6.setTop (mkF m 58 #[.val (.ref b), .val (.int (Int32.ofNat o)), .val (.int (Int32.ofNat len)), .val (.ref s.heap.size), .val (.int (Int32.ofNat len)), .unset] [.ref s.heap.size])) := c7.trans (by
    refine XS.istore X6.here hexec rfl (hb hbytes d12) rfl rfl ?_
    refine XS.iload X6.here hexec rfl (hb hbytes d14) rfl ?_
    refine XS.iloadN X6.here hexec rfl (hb hbytes d16) rfl ?_
    refine XS.icmpYes X6.here hexec rfl (pc0 := 17) rfl (hb hbytes d17) rfl (ii_eq_t rfl) (by decide) rfl ?_
    refine XS.aloadN X6.here hexec rfl (hb hbytes d57) rfl rfl ?_
    exact Steps.refl _)
  have X8 := X6.wide (L' := []) (cells' := 1) (slots' := len) (fun x hx hlt => by
    simp only [List.nil_append, copyLocs, List.mem_map, List.mem_range] at hx
    obtain ⟨i, -, rfl⟩ := hx
    exact absurd hlt (Nat.lt_irrefl _)) (Nat.le_refl _) (by omega)
  exact ⟨T6, some (.ref s.heap.size), _, _, _, X8, rfl, rfl, rfl, (fun h => by cases h), ⟨⟨rfl, B6, ba3.like (X3.warmed.alike.symm.trans X6.warmed.alike) p6.1 f6.1 f6.2.1 f6.2.2.1, f6.2.1.trans bv3, by rw [X6.warmed.alike.findClass, f6.1]; exact bf3, by rw [f6.2.2.1, bs3]; simp, fun j hj => by rw [f6.2.2.2 j, if_pos (by omega)]; rfl, kp3.put p6 (Nat.le_refl _)⟩, by rw [p6.2.2, bh3, hh0]; simp⟩, fun fs hl => c8.trans (X8.areturnOut hexec rfl hret rfl (hb hbytes d58) hl)⟩
end Cmp3
namespace CodL
def yN : MethodName := ⟨"java/lang/StringUTF16", "coderFromArrayLen", "([BI)B"⟩
abbrev yB : ByteArray := jdk_52_method_15_code
theorem d0 : decode yB 0 = .ok (.iload_n 1, 1) := by decide +kernel
theorem d1 : decode yB 1 = .ok (.aload_n 0, 1) := by decide +kernel
theorem d2 : decode yB 2 = .ok (.arraylength, 1) := by decide +kernel
theorem d3 : decode yB 3 = .ok (.isub, 1) := by decide +kernel
theorem d4 : decode yB 4 = .ok (.bipush 31, 2) := by decide +kernel
theorem d6 : decode yB 6 = .ok (.iushr, 1) := by decide +kernel
theorem d7 : decode yB 7 = .ok (.i2b, 1) := by decide +kernel
theorem d8 : decode yB 8 = .ok (.ireturn, 1) := by decide +kernel
def site : List Cond := []
def tab : Cond := tabOf yN yB 2 (some .byte) site
def P (d : Addr) (B : Cell) (args : Array Value) (s : State) : Prop := args = #[.ref d, .int (Int32.ofNat B.slots.size)] ∧ Arr .byte d B s
def E (r : Option Value) (s u : State) : Prop := XT.PureE (some (.int 0)) r s u
/-- an array as long as the number of chars: LATIN1 -/
theorem law (l : Launch) (d : Addr) (B : Cell) : Law l yN 2 2 0 0 yB 2 (some .byte) site (P d B) E [] 0 0 := by
  refine Law.of_walk (plainFor_of_name (by decide +kernel)) (by decide +kernel) (by decide +kernel) (by decide) (fun _ _ h => by rw [h.1]; rfl) (fun _ U U' hal hh h => ⟨h.1, h.2.mv hal hh⟩) (fun r U U' V V' h1 hal h2 h => XT.PureE.mv r U U' V V' h1 hal h2 h) ?_
  intro p e s m args below meth c s₁ X0 hexec hbytes hml hret hlk hnm hown hh0 W hP
  obtain ⟨rfl, hB⟩ := hP
  have hB0 := hB.mv X0.warmed.alike hh0
  have c1 : Steps p.tables e below (s₁.setTop (entryFrame m #[.ref d, .int (Int32.ofNat B.slots.size)] 2)) (s₁.setTop (mkF m 0 #[.val (.ref d), .val (.int (Int32.ofNat B.slots.size))] [])) := entry rfl
  have c2 : Steps p.tables e below (s₁.setTop (entryFrame m #[.ref d, .int (Int32.ofNat B.slots.size)] 2)) (s₁.setTop (mkF m 2 #[.val (.ref d), .val (.int (Int32.ofNat B.slots.size))] [.ref d, .int (Int32.ofNat B.slots.size)])) := c1.trans (by
    refine XS.iloadN X0.here hexec rfl (hb hbytes d0) rfl ?_
    refine XS.aloadN X0.here hexec rfl (hb hbytes d1) rfl rfl ?_
    exact Steps.refl _)
  have c3 : Steps p.tables e below (s₁.setTop (entryFrame m #[.ref d, .int (Int32.ofNat B.slots.size)] 2)) (s₁.setTop (mkF m 8 #[.val (.ref d), .val (.int (Int32.ofNat B.slots.size))] [.int (lo8 (ushr (Int32.ofNat B.slots.size - Int32.ofNat B.slots.size) 31))])) := c2.trans (by
    refine X0.alen hexec hB0 rfl rfl (hb hbytes d2) ?_
    refine XS.isub X0.here hexec rfl (hb hbytes d3) rfl ?_
    refine bipushV X0.here hexec rfl 31 (hb hbytes d4) (by decide) ?_
    refine iushr X0.here hexec rfl (hb hbytes d6) rfl ?_
    refine i2b X0.here hexec rfl (hb hbytes d7) rfl ?_
    exact Steps.refl _)
  have e0 : lo8 (ushr (Int32.ofNat B.slots.size - Int32.ofNat B.slots.size) 31) = 0 := by rw [Int32.sub_self]; decide
  rw [e0] at c3
  exact ⟨s₁, some (.int 0), _, _, _, X0, rfl, rfl, rfl, (fun h => by cases h), ⟨rfl, hh0⟩, fun fs hl => c3.trans (X0.ireturnOut hexec hret rfl (Or.inr (Or.inr (Or.inl rfl))) (hb hbytes d8) hl)⟩
end CodL
/-- the String at a is Latin-1 over a new byte[] (the heap's one new cell): the low bytes of the len chars of A from o on; every cell but a is kept -/
def Got (a : Addr) (D : Cell) (fV fC : Field) (A : Cell) (o len : Nat) (r : Option Value) (s u : State) : Prop := r = none ∧ ∃ D' V : Cell, Blank "java/lang/String" a D' u ∧ Same D D' [fV.slot, fC.slot] ∧ D'.slots[fV.slot]? = some (.ref s.heap.size) ∧ D'.slots[fC.slot]? = some (.int 0) ∧ Arr .byte s.heap.size V u ∧ V.vm = .none ∧ u.vm.findClass "[B" = some V.cls ∧ V.slots.size = len ∧ (∀ j, j < len → V.slots[j]? = some (.int (lo8 (cv A (o + j))))) ∧ (∀ (y : Addr) (c : Cell), y ≠ a → s.heap[y]? = some c → u.heap[y]? = some c) ∧ u.heap.size = s.heap.size + 1
theorem Got.mv {a : Addr} {D A : Cell} {fV fC : Field} {o len : Nat} : ∀ r (U U' V V' : State), U'.heap = U.heap → V.vm.Alike V'.vm → V'.heap = V.heap → Got a D fV fC A o len r U V → Got a D fV fC A o len r U' V' :=
  fun r U U' V V' h1 hal h2 ⟨e0, D', X, a1, a2, a3, a4, a5, a6, a7, a8, a9, a10, a11⟩ => ⟨e0, D', X, a1.mv hal h2, a2, by rw [h1]; exact a3, a4, by rw [h1]; exact a5.mv hal h2, a6, by rw [hal.findClass]; exact a7, a8, a9, by rw [h1, h2]; exact a10, by rw [h1, h2]; exact a11⟩
namespace New4
def yN : MethodName := ⟨"java/lang/String", "<init>", "([CIILjava/lang/Void;)V"⟩
abbrev yB : ByteArray := jdk_42_method_149_code
theorem d0 : decode yB 0 = .ok (.aload_n 0, 1) := by decide +kernel
theorem d1 : decode yB 1 = .ok (.invokespecial 1, 3) := by decide +kernel
theorem d4 : decode yB 4 = .ok (.iload_n 3, 1) := by decide +kernel
theorem d5 : decode yB 5 = .ok (.ifCond (.ne) 22, 3) := by decide +kernel
theorem d27 : decode yB 27 = .ok (.getstatic 38, 3) := by decide +kernel
theorem d30 : decode yB 30 = .ok (.ifCond (.eq) 28, 3) := by decide +kernel
theorem d33 : decode yB 33 = .ok (.aload_n 1, 1) := by decide +kernel
theorem d34 : decode yB 34 = .ok (.iload_n 2, 1) := by decide +kernel
theorem d35 : decode yB 35 = .ok (.iload_n 3, 1) := by decide +kernel
theorem d36 : decode yB 36 = .ok (.invokestatic 177, 3) := by decide +kernel
theorem d39 : decode yB 39 = .ok (.astore 5, 2) := by decide +kernel
theorem d41 : decode yB 41 = .ok (.aload_n 0, 1) := by decide +kernel
theorem d42 : decode yB 42 = .ok (.aload 5, 2) := by decide +kernel
theorem d44 : decode yB 44 = .ok (.iload_n 3, 1) := by decide +kernel
theorem d45 : decode yB 45 = .ok (.invokestatic 47, 3) := by decide +kernel
theorem d48 : decode yB 48 = .ok (.putfield 15, 3) := by decide +kernel
theorem d51 : decode yB 51 = .ok (.aload_n 0, 1) := by decide +kernel
theorem d52 : decode yB 52 = .ok (.aload 5, 2) := by decide +kernel
theorem d54 : decode yB 54 = .ok (.putfield 9, 3) := by decide +kernel
theorem d57 : decode yB 57 = .ok (.return_, 1) := by decide +kernel
def site : List Cond := [.fieldLink "java/lang/String" 38 "java/lang/String" "COMPACT_STRINGS" "Z", Cmp3.tab, CodL.tab, .laysFinal "java/lang/String" "java/lang/String" "value" "[B", .fieldLink "java/lang/String" 9 "java/lang/String" "value" "[B", .laysFinal "java/lang/String" "java/lang/String" "coder" "B", .fieldLink "java/lang/String" 15 "java/lang/String" "coder" "B"] ++ objW "java/lang/String" 1 ++ staticW "java/lang/String" 177 Cmp3.yN ++ staticW "java/lang/String" 47 CodL.yN
def tab : Cond := tabOf yN yB 6 none site
def P (a : Addr) (D : Cell) (fV fC : Field) (b : Addr) (A : Cell) (z : Int32) (o len : Nat) (args : Array Value) (s : State) : Prop := args = #[.ref a, .ref b, .int (Int32.ofNat o), .int (Int32.ofNat len), .null] ∧ Blank "java/lang/String" a D s ∧ Found "java/lang/String" "value" "[B" fV s ∧ Found "java/lang/String" "coder" "B" fC s ∧ Ch b A s ∧ StaticIs s "java/lang/String" "COMPACT_STRINGS" "Z" (.int z) ∧ ¬ z = 0 ∧ 0 < len ∧ o + len ≤ A.slots.size ∧ len ≤ 536870912 ∧ ∀ i, i < len → ¬ 255 < cv A (o + i)
def E (a : Addr) (D : Cell) (fV fC : Field) (A : Cell) (o len : Nat) (r : Option Value) (s u : State) : Prop := Got a D fV fC A o len r s u
/-- len > 0, no char of the range above 255: a Latin-1 String of their low bytes -/
theorem law (l : Launch) (a : Addr) (D : Cell) (fV fC : Field) (b : Addr) (A : Cell) (z : Int32) (o len : Nat) : Law l yN 5 4 2 35 yB 6 none site (P a D fV fC b A z o len) (E a D fV fC A o len) [⟨a, fC.slot⟩, ⟨a, fV.slot⟩] 1 len := by
  refine Law.of_walk (plainFor_of_name (by decide +kernel)) (by decide +kernel) (by decide +kernel) (by decide) (fun _ _ h => by rw [h.1]; rfl) (fun _ U U' hal hh h => ⟨h.1, h.2.1.mv hal hh, h.2.2.1.al hal, h.2.2.2.1.al hal, h.2.2.2.2.1.mv hal hh, h.2.2.2.2.2.1.there hal hh, h.2.2.2.2.2.2⟩) (fun r U U' V V' h1 hal h2 h => Got.mv r U U' V V' h1 hal h2 h) ?_
  intro p e s m args below meth c s₁ X0 hexec hbytes hml hret hlk hnm hown hh0 W hP
  obtain ⟨rfl, hB, f1, f2, hA, s1, hz, l0, l1, l2, hp⟩ := hP
  have a31 := hA.1.2.2.2
  have c1 : Steps p.tables e below (s₁.setTop (entryFrame m #[.ref a, .ref b, .int (Int32.ofNat o), .int (Int32.ofNat len), .null] 6)) (s₁.setTop (mkF m 0 #[.val (.ref a), .val (.ref b), .val (.int (Int32.ofNat o)), .val (.int (Int32.ofNat len)), .val .null, .unset] [])) := entry rfl
  have c2 : Steps p.tables e below (s₁.setTop (entryFrame m #[.ref a, .ref b, .int (Int32.ofNat o), .int (Int32.ofNat len), .null] 6)) (s₁.setTop (mkF m 1 #[.val (.ref a), .val (.ref b), .val (.int (Int32.ofNat o)), .val (.int (Int32.ofNat len)), .val .null, .unset] [.ref a])) := c1.trans (by
    refine XS.aloadN X0.here hexec rfl (hb hbytes d0) rfl rfl ?_
    exact Steps.refl _)
  obtain ⟨T3, X3, q3, st3⟩ := X0.oinit hexec hown (wks W (objW "java/lang/String" 1)) (g := (mkF m 1 #[.val (.ref a), .val (.ref b), .val (.int (Int32.ofNat o)), .val (.int (Int32.ofNat len)), .val .null, .unset] [.ref a])) rfl (by rw [hml]; rfl) (rest := []) rfl (hb hbytes d1) (W := 0) (by show 2 * 0 + 0 ≤ _; decide) (Nat.le_of_ble_eq_true rfl) (Nat.le_of_ble_eq_true rfl)
  have hh3 := q3.trans hh0
  have c4 : Steps p.tables e below (s₁.setTop (entryFrame m #[.ref a, .ref b, .int (Int32.ofNat o), .int (Int32.ofNat len), .null] 6)) (T3.setTop (mkF m 27 #[.val (.ref a), .val (.ref b), .val (.int (Int32.ofNat o)), .val (.int (Int32.ofNat len)), .val .null, .unset] [])) := (c2.trans (st3 _ (Steps.refl _))).trans (by
    refine XS.iloadN X3.here hexec rfl (hb hbytes d4) rfl ?_
    refine XS.ifYes X3.here hexec rfl (pc0 := 5) rfl (hb hbytes d5) rfl (i0_ne_t (nz32 (by omega) l0)) (by decide) rfl ?_
    exact Steps.refl _)
  obtain ⟨T5, X5, q5, st5⟩ := X3.sget hexec hown (wk W (.fieldLink "java/lang/String" 38 "java/lang/String" "COMPACT_STRINGS" "Z")) s1 (fun _ _ h => by rw [hh3]; exact h) (g := (mkF m 27 #[.val (.ref a), .val (.ref b), .val (.int (Int32.ofNat o)), .val (.int (Int32.ofNat len)), .val .null, .unset] [])) rfl (hb hbytes d27)
  have hh5 := q5.trans hh3
  have c6 : Steps p.tables e below (s₁.setTop (entryFrame m #[.ref a, .ref b, .int (Int32.ofNat o), .int (Int32.ofNat len), .null] 6)) (T5.setTop (mkF m 30 #[.val (.ref a), .val (.ref b), .val (.int (Int32.ofNat o)), .val (.int (Int32.ofNat len)), .val .null, .unset] [.int z])) := c4.trans (st5 _ (Steps.refl _))
  have c7 : Steps p.tables e below (s₁.setTop (entryFrame m #[.ref a, .ref b, .int (Int32.ofNat o), .int (Int32.ofNat len), .null] 6)) (T5.setTop (mkF m 36 #[.val (.ref a), .val (.ref b), .val (.int (Int32.ofNat o)), .val (.int (Int32.ofNat len)), .val .null, .unset] [.int (Int32.ofNat len), .int (Int32.ofNat o), .ref b])) := c6.trans (by
    refine XS.ifNo X5.here hexec rfl (hb hbytes d30) rfl (i0_eq_f hz) ?_
    refine XS.aloadN X5.here hexec rfl (hb hbytes d33) rfl rfl ?_
    refine XS.iloadN X5.here hexec rfl (hb hbytes d34) rfl ?_
    refine XS.iloadN X5.here hexec rfl (hb hbytes d35) rfl ?_
    exact Steps.refl _)
  obtain ⟨v8, T8, X8, E8, g8⟩ := X5.callS hexec (Cmp3.law l b A o len) hown (wks W (staticW "java/lang/String" 177 Cmp3.yN)) (wk W Cmp3.tab) (W := 0) (Nat.le_of_ble_eq_true rfl) (Nat.le_of_ble_eq_true rfl) (Nat.le_refl _) (by show 0 + len ≤ len; omega) (g := (mkF m 36 #[.val (.ref a), .val (.ref b), .val (.int (Int32.ofNat o)), .val (.int (Int32.ofNat len)), .val .null, .unset] [.int (Int32.ofNat len), .int (Int32.ofNat o), .ref b])) rfl (by rw [hml]; rfl) c7 (argsL := [.ref b, .int (Int32.ofNat o), .int (Int32.ofNat len)]) (rest := []) rfl rfl (by show 2 * 0 + 0 ≤ _; decide) (hb hbytes d36) (⟨rfl, hA.mv X5.warmed.alike hh5, l1, l2, hp⟩)
  obtain ⟨e8, z8⟩ := E8
  obtain ⟨rfl, N, n1, n2, n3, n4, n5, n6⟩ := NewArr.mv _ T5 s _ _ hh5.symm (Vm.Alike.refl _) rfl e8
  rw [hh5] at z8
  have hB1 := hB.keep X8.warmed.alike (n6 _ _ hB.1)
  have hne : s.heap.size ≠ a := (Nat.ne_of_lt (Array.getElem?_eq_some_iff.mp hB.1).1).symm
  have c9 : Steps p.tables e below (s₁.setTop (entryFrame m #[.ref a, .ref b, .int (Int32.ofNat o), .int (Int32.ofNat len), .null] 6)) (T8.setTop (mkF m 39 #[.val (.ref a), .val (.ref b), .val (.int (Int32.ofNat o)), .val (.int (Int32.ofNat len)), .val .null, .unset] [.ref s.heap.size])) := g8
  have c10 : Steps p.tables e below (s₁.setTop (entryFrame m #[.ref a, .ref b, .int (Int32.ofNat o), .int (Int32.ofNat len), .null] 6)) (T8.setTop (mkF m 45 #[.val (.ref a), .val (.ref b), .val (.int (Int32.ofNat o)), .val (.int (Int32.ofNat len)), .val .null, .val (.ref s.heap.size)] [.int (Int32.ofNat N.slots.size), .ref s.heap.size, .ref a])) := by
    have hc : Steps p.tables e below (s₁.setTop (entryFrame m #[.ref a, .ref b, .int (Int32.ofNat o), .int (Int32.ofNat len), .null] 6)) (T8.setTop (mkF m 45 #[.val (.ref a), .val (.ref b), .val (.int (Int32.ofNat o)), .val (.int (Int32.ofNat len)), .val .null, .val (.ref s.heap.size)] [.int (Int32.ofNat len), .ref s.heap.size, .ref a])) := c9.trans (by
      refine XS.astore X8.here hexec rfl (hb hbytes d39) rfl rfl rfl ?_
      refine XS.aloadN X8.here hexec rfl (hb hbytes d41) rfl rfl ?_
      refine XS.aload X8.here hexec rfl (hb hbytes d42) rfl rfl ?_
      refine XS.iloadN X8.here hexec rfl (hb hbytes d44) rfl ?_
      exact Steps.refl _)
    rw [n4]; exact hc
  obtain ⟨v11, T11, X11, E11, g11⟩ := X8.callS hexec (CodL.law l s.heap.size N) hown (wks W (staticW "java/lang/String" 47 CodL.yN)) (wk W CodL.tab) (W := 1) (Nat.le_of_ble_eq_true rfl) (Nat.le_of_ble_eq_true rfl) (Nat.le_refl _) (by show 0 + len + 0 ≤ len; omega) (g := (mkF m 45 #[.val (.ref a), .val (.ref b), .val (.int (Int32.ofNat o)), .val (.int (Int32.ofNat len)), .val .null, .val (.ref s.heap.size)] [.int (Int32.ofNat N.slots.size), .ref s.heap.size, .ref a])) rfl (by rw [hml]; rfl) c10 (argsL := [.ref s.heap.size, .int (Int32.ofNat N.slots.size)]) (rest := [.ref a]) rfl rfl (by show 2 * 0 + (1 + 0) ≤ _; decide) (hb hbytes d45) (⟨rfl, n1⟩)
  obtain ⟨rfl, q11⟩ := E11
  have hB11 := hB1.mv (X8.warmed.alike.symm.trans X11.warmed.alike) q11
  have c12 : Steps p.tables e below (s₁.setTop (entryFrame m #[.ref a, .ref b, .int (Int32.ofNat o), .int (Int32.ofNat len), .null] 6)) (T11.setTop (mkF m 48 #[.val (.ref a), .val (.ref b), .val (.int (Int32.ofNat o)), .val (.int (Int32.ofNat len)), .val .null, .val (.ref s.heap.size)] [.int 0, .ref a])) := g11
  obtain ⟨T13, X13, p13, bl13, sl13, st13⟩ := X11.finit hexec hown (wk W (.fieldLink "java/lang/String" 15 "java/lang/String" "coder" "B")) (Or.inr ⟨_, (wk W (.laysFinal "java/lang/String" "java/lang/String" "coder" "B"))⟩) (Or.inl ⟨rfl, hnm⟩) f2 (Or.inl rfl) hB11 (t := .byte) (by decide +kernel) rfl (g := (mkF m 48 #[.val (.ref a), .val (.ref b), .val (.int (Int32.ofNat o)), .val (.int (Int32.ofNat len)), .val .null, .val (.ref s.heap.size)] [.int 0, .ref a])) rfl (rest := []) rfl (hb hbytes d48)
  have c14 : Steps p.tables e below (s₁.setTop (entryFrame m #[.ref a, .ref b, .int (Int32.ofNat o), .int (Int32.ofNat len), .null] 6)) (T13.setTop (mkF m 54 #[.val (.ref a), .val (.ref b), .val (.int (Int32.ofNat o)), .val (.int (Int32.ofNat len)), .val .null, .val (.ref s.heap.size)] [.ref s.heap.size, .ref a])) := (c12.trans (st13 _ (Steps.refl _))).trans (by
    refine XS.aloadN X13.here hexec rfl (hb hbytes d51) rfl rfl ?_
    refine XS.aload X13.here hexec rfl (hb hbytes d52) rfl rfl ?_
    exact Steps.refl _)
  obtain ⟨T15, X15, p15, bl15, sl15, st15⟩ := X13.finit hexec hown (wk W (.fieldLink "java/lang/String" 9 "java/lang/String" "value" "[B")) (Or.inr ⟨_, (wk W (.laysFinal "java/lang/String" "java/lang/String" "value" "[B"))⟩) (Or.inl ⟨rfl, hnm⟩) f1 (Or.inl rfl) bl13 (t := (.array .byte)) (by decide +kernel) rfl (g := (mkF m 54 #[.val (.ref a), .val (.ref b), .val (.int (Int32.ofNat o)), .val (.int (Int32.ofNat len)), .val .null, .val (.ref s.heap.size)] [.ref s.heap.size, .ref a])) rfl (rest := []) rfl (hb hbytes d54)
  have c16 : Steps p.tables e below (s₁.setTop (entryFrame m #[.ref a, .ref b, .int (Int32.ofNat o), .int (Int32.ofNat len), .null] 6)) (T15.setTop (mkF m 57 #[.val (.ref a), .val (.ref b), .val (.int (Int32.ofNat o)), .val (.int (Int32.ofNat len)), .val .null, .val (.ref s.heap.size)] [])) := c14.trans (st15 _ (Steps.refl _))
  have ap := apart (Or.inr ⟨_, (wk W (.laysFinal "java/lang/String" "java/lang/String" "value" "[B"))⟩) (Or.inr ⟨_, (wk W (.laysFinal "java/lang/String" "java/lang/String" "coder" "B"))⟩) f1 f2 (t₁ := .array .byte) (t₂ := .byte) (by decide +kernel) (by decide +kernel) (by decide)
  have al := X8.warmed.alike.symm.trans X15.warmed.alike
  have n7 : T11.heap[s.heap.size]? = some N := by rw [q11]; exact n1.1
  exact ⟨T15, none, _, _, _, X15, by simp, rfl, by omega, (fun _ => rfl), ⟨rfl, _, N, bl15, ((Same.refl D _).set _ (by simp)).set _ (by simp), sl15, (Cell.slots_setSlot_ne _ ap).trans sl13, n1.keep al (p15.other hne (p13.other hne n7)), n2, by rw [al.findClass]; exact n3, n4, n5, fun y c h1 h2 => p15.other h1 (p13.other h1 (by rw [q11]; exact n6 y c h2)), by rw [p15.2.2, p13.2.2, q11]; exact z8⟩, fun fs hl => c16.trans (X15.returnOut hexec hret (hb hbytes d57) hl)⟩
end New4
namespace New1
def yN : MethodName := ⟨"java/lang/String", "<init>", "([C)V"⟩
abbrev yB : ByteArray := jdk_42_method_3_code
theorem d0 : decode yB 0 = .ok (.aload_n 0, 1) := by decide +kernel
theorem d1 : decode yB 1 = .ok (.aload_n 1, 1) := by decide +kernel
theorem d2 : decode yB 2 = .ok (.iconst 0, 1) := by decide +kernel
theorem d3 : decode yB 3 = .ok (.aload_n 1, 1) := by decide +kernel
theorem d4 : decode yB 4 = .ok (.arraylength, 1) := by decide +kernel
theorem d5 : decode yB 5 = .ok (.aconst_null, 1) := by decide +kernel
theorem d6 : decode yB 6 = .ok (.invokespecial 27, 3) := by decide +kernel
theorem d9 : decode yB 9 = .ok (.return_, 1) := by decide +kernel
def site : List Cond := [New4.tab] ++ initW "java/lang/String" 27 New4.yN
def tab : Cond := tabOf yN yB 2 none site
def P (a : Addr) (D : Cell) (fV fC : Field) (b : Addr) (A : Cell) (z : Int32) (args : Array Value) (s : State) : Prop := args = #[.ref a, .ref b] ∧ Blank "java/lang/String" a D s ∧ Found "java/lang/String" "value" "[B" fV s ∧ Found "java/lang/String" "coder" "B" fC s ∧ Ch b A s ∧ StaticIs s "java/lang/String" "COMPACT_STRINGS" "Z" (.int z) ∧ ¬ z = 0 ∧ 0 < A.slots.size ∧ A.slots.size ≤ 536870912 ∧ ∀ i, i < A.slots.size → ¬ 255 < cv A i
def E (a : Addr) (D : Cell) (fV fC : Field) (A : Cell) (r : Option Value) (s u : State) : Prop := Got a D fV fC A 0 A.slots.size r s u
/-- new String(chars), not empty, no char above 255: a Latin-1 String of their low bytes -/
theorem law (l : Launch) (a : Addr) (D : Cell) (fV fC : Field) (b : Addr) (A : Cell) (z : Int32) : Law l yN 2 1 3 52 yB 2 none site (P a D fV fC b A z) (E a D fV fC A) [⟨a, fC.slot⟩, ⟨a, fV.slot⟩] 1 A.slots.size := by
  refine Law.of_walk (plainFor_of_name (by decide +kernel)) (by decide +kernel) (by decide +kernel) (by decide) (fun _ _ h => by rw [h.1]; rfl) (fun _ U U' hal hh h => ⟨h.1, h.2.1.mv hal hh, h.2.2.1.al hal, h.2.2.2.1.al hal, h.2.2.2.2.1.mv hal hh, h.2.2.2.2.2.1.there hal hh, h.2.2.2.2.2.2⟩) (fun r U U' V V' h1 hal h2 h => Got.mv r U U' V V' h1 hal h2 h) ?_
  intro p e s m args below meth c s₁ X0 hexec hbytes hml hret hlk hnm hown hh0 W hP
  obtain ⟨rfl, hB, f1, f2, hA, s1, hz, l0, l2, hp⟩ := hP
  have c1 : Steps p.tables e below (s₁.setTop (entryFrame m #[.ref a, .ref b] 2)) (s₁.setTop (mkF m 0 #[.val (.ref a), .val (.ref b)] [])) := entry rfl
  have c2 : Steps p.tables e below (s₁.setTop (entryFrame m #[.ref a, .ref b] 2)) (s₁.setTop (mkF m 6 #[.val (.ref a), .val (.ref b)] [.null, .int (Int32.ofNat A.slots.size), .int 0, .ref b, .ref a])) := c1.trans (by
    refine XS.aloadN X0.here hexec rfl (hb hbytes d0) rfl rfl ?_
    refine XS.aloadN X0.here hexec rfl (hb hbytes d1) rfl rfl ?_
    refine iconstV X0.here hexec rfl 0 (hb hbytes d2) (by decide) ?_
    refine XS.aloadN X0.here hexec rfl (hb hbytes d3) rfl rfl ?_
    refine X0.alen hexec (hA.1.mv X0.warmed.alike hh0) rfl rfl (hb hbytes d4) ?_
    refine XS.aconstNull X0.here hexec rfl (hb hbytes d5) ?_
    exact Steps.refl _)
  obtain ⟨v3, T3, X3, E3, g3⟩ := X0.callN hexec (New4.law l a D fV fC b A z 0 A.slots.size) rfl hown (wks W (initW "java/lang/String" 27 New4.yN)) (W New4.tab (by simp only [site, List.mem_cons, List.mem_append, true_or, or_true])) (W := 0) (Nat.le_of_ble_eq_true rfl) (Nat.le_of_ble_eq_true rfl) (Nat.le_refl _) (by show 0 + A.slots.size ≤ A.slots.size; omega) (g := (mkF m 6 #[.val (.ref a), .val (.ref b)] [.null, .int (Int32.ofNat A.slots.size), .int (Int32.ofNat 0), .ref b, .ref a])) rfl (by rw [hml]; rfl) c2 (argsL := [.ref b, .int (Int32.ofNat 0), .int (Int32.ofNat A.slots.size), .null]) (rest := []) rfl rfl (by show 2 * 0 + 0 ≤ _; decide) (hb hbytes d6) (⟨rfl, hB.mv X0.warmed.alike hh0, f1.al X0.warmed.alike, f2.al X0.warmed.alike, hA.mv X0.warmed.alike hh0, s1.there X0.warmed.alike hh0, hz, l0, by omega, l2, fun i hi => by rw [Nat.zero_add]; exact hp i hi⟩)
  have e0 := Got.mv _ s₁ s _ _ hh0.symm (Vm.Alike.refl _) rfl E3
  obtain rfl := e0.1
  have c4 : Steps p.tables e below (s₁.setTop (entryFrame m #[.ref a, .ref b] 2)) (T3.setTop (mkF m 9 #[.val (.ref a), .val (.ref b)] [])) := g3
  exact ⟨T3, none, _, _, _, X3, by simp, rfl, by omega, (fun _ => rfl), e0, fun fs hl => c4.trans (X3.returnOut hexec hret (hb hbytes d9) hl)⟩
theorem pays {l : Launch} {R : Room} {p : Program} {e : Env} {below : List Frame} {s : State} {sargs : Array Value} {len W : Nat} (a : Addr) (D : Cell) (fV fC : Field) (b : Addr) (A : Cell) (z : Int32) (htab : tab.before sargs s = true) (hfr : 4 ≤ R.frames) (hlo : W + 65 ≤ R.locals) :
    Back l R p e below s sargs yN len W (fun A₁ a₁ => A₁.cells + 1 ≤ R.cells ∧ A₁.slots + A.slots.size ≤ R.slots ∧ P a D fV fC b A z a₁ A₁.U) (fun A₁ _ v₁ B₁ => E a D fV fC A v₁ A₁.U B₁.U ∧ B₁.locs = A₁.locs ++ [⟨a, fC.slot⟩, ⟨a, fV.slot⟩] ∧ B₁.cells = A₁.cells + 1 ∧ B₁.slots = A₁.slots + A.slots.size) :=
  (law l a D fV fC b A z).pays htab hfr (by omega)
end New1
/-- the byte, read back as charAt reads it, is the char -/
theorem lo8_mask {x : Int32} (h0 : ¬ x < 0) (h1 : ¬ 255 < x) : lo8 x &&& 255 = x := by
  have t : ∀ k : Fin 256, lo8 (Int32.ofNat k.val) &&& 255 = Int32.ofNat k.val := by decide +kernel
  rw [Int32.lt_iff_toInt_lt] at h0 h1
  have e0 : (0 : Int32).toInt = 0 := rfl
  have e1 : (255 : Int32).toInt = 255 := rfl
  obtain ⟨k, hk⟩ : ∃ k : Nat, x.toInt = k := ⟨x.toInt.toNat, by omega⟩
  have hx : x = Int32.ofNat k := Int32.toInt_inj.mp (by rw [hk, Int32.toInt_ofNat_small (by omega)])
  rw [hx]
  exact t ⟨k, by omega⟩
end StrChars
namespace StrChars.Road
open Jvm Sem ClassFile Op Lib Jvm.Stand Jvm.Free Jvm.Free.XT
open Jvm.Lib.Cold (StaticIs)
abbrev ST : String := "java/lang/String"
/-- every table word that New1's law asks, flat -/
abbrev words : List Jvm.Cond := [.code New1.yN New1.yB 2 none, .initialized ST, .methodLink ST 27 New4.yN, .instanceMethod New4.yN,
  .code New4.yN New4.yB 6 none, .fieldLink ST 38 ST "COMPACT_STRINGS" "Z", .laysFinal ST ST "value" "[B", .fieldLink ST 9 ST "value" "[B", .laysFinal ST ST "coder" "B", .fieldLink ST 15 ST "coder" "B",
  .methodLink ST 1 Lib.objectInit, .instanceMethod Lib.objectInit, .code Lib.objectInit ⟨#[0xb1]⟩ 1 none, .methodLink ST 177 Cmp3.yN, .static Cmp3.yN, .methodLink ST 47 CodL.yN, .static CodL.yN,
  .code Cmp3.yN Cmp3.yB 6 (some (.array .byte)), .initialized U16, .arrayClass .byte, .methodLink U16 115 Cmp5.yN, .static Cmp5.yN, .code Cmp5.yN Cmp5.yB 7 (some .int), .code CodL.yN CodL.yB 2 (some .byte)]
theorem tab_of {a : Array Value} {s : State} (h : ∀ w ∈ words, w.before a s = true) : New1.tab.before a s = true := by
  have h5 : Cmp5.tab.before a s = true := unparts (wk h (.code Cmp5.yN Cmp5.yB 7 (some .int))) (wks h (.initialized Cmp5.yN.cls :: Cmp5.site))
  have hc : CodL.tab.before a s = true := unparts (wk h (.code CodL.yN CodL.yB 2 (some .byte))) (wks h (.initialized CodL.yN.cls :: CodL.site))
  have q5 : ∀ w ∈ Cmp5.tab :: words, w.before a s = true := fun w hw => (List.mem_cons.mp hw).elim (fun e => e ▸ h5) (h w)
  have h3 : Cmp3.tab.before a s = true := unparts (wk q5 (.code Cmp3.yN Cmp3.yB 6 (some (.array .byte)))) (wks q5 (.initialized Cmp3.yN.cls :: Cmp3.site))
  have q3 : ∀ w ∈ Cmp3.tab :: CodL.tab :: words, w.before a s = true := fun w hw => (List.mem_cons.mp hw).elim (fun e => e ▸ h3) fun hw => (List.mem_cons.mp hw).elim (fun e => e ▸ hc) (h w)
  have h4 : New4.tab.before a s = true := unparts (wk q3 (.code New4.yN New4.yB 6 none)) (wks q3 (.initialized New4.yN.cls :: New4.site))
  have q4 : ∀ w ∈ New4.tab :: words, w.before a s = true := fun w hw => (List.mem_cons.mp hw).elim (fun e => e ▸ h4) (h w)
  exact unparts (wk q4 (.code New1.yN New1.yB 2 none)) (wks q4 (.initialized New1.yN.cls :: New1.site))
/-- the words ride from the start Z to the walk's own state -/
theorem moved {Z s : State} {a0 args : Array Value} (hZ : Z.Warmed39 s.vm) (hw : ∀ d ∈ words, d.before a0 Z = true) : ∀ d ∈ words, d.before args s = true := fun d hd => by
  have q := hw d hd
  have t : ∀ d ∈ words, d = .arrayClass .byte ∨ (d.onTables && d.keepsFace) = true := by decide +kernel
  rcases t d hd with rfl | t
  · exact RoadKit.mvA hZ q
  · exact RoadKit.mv hZ q t
/-- WHAT COMES BACK, over the tables of the start Z: h the heap at the call, h' behind it -/
def Q (Z : State) (x : Addr) (A : Cell) (h : Heap) (v : Option Value) (h' : Heap) (L : List Loc) : Prop := v = none ∧ (∀ y ∈ L, y.base = x) ∧ RoadKit.Keep h h' [x] ∧ h'.size = h.size + 1 ∧ RoadKit.Exa Z h' x ST ∧ RoadKit.Fld Z h' x ST "value" "[B" (.ref h.size) ∧ RoadKit.Fld Z h' x ST "coder" "B" (.int 0) ∧
  (∃ V : Cell, RoadKit.Arr Z h' h.size V .byte ∧ V.vm = .none ∧ Z.vm.findClass "[B" = some V.cls ∧ V.slots.size = A.slots.size ∧ ∀ j, j < A.slots.size → V.slots[j]? = some (.int (lo8 (cv A j)))) ∧
  ∀ (O n d : String) (w : Value), RoadKit.Fld Z h x O n d w → RoadKit.slotOf Z O n d ≠ RoadKit.slotOf Z ST "value" "[B" → RoadKit.slotOf Z O n d ≠ RoadKit.slotOf Z ST "coder" "B" → RoadKit.Fld Z h' x O n d w
/-- **new String(chars) AT A CALL, IN THE ROAD'S FORM**: for specialBack behind newO: x the fresh String, b the char[] with the cell A -/
theorem back {p : Program} {l : Launch} {e : Env} {R : Room} {s : State} {args : Array Value} {below : List Frame} {len W : Nat} {Z : State} {a0 : Array Value} {h : Heap} (hZ : Z.Warmed39 s.vm) (hw : ∀ d ∈ words, d.before a0 Z = true) {kI : Nat} (wi : (Jvm.Cond.instantiable ST kI).before a0 Z = true)
    {x b : Addr} {A : Cell} {z : Int32} {v0 c0 : Value} (E : RoadKit.Exa Z h x ST) (V : RoadKit.Fld Z h x ST "value" "[B" v0) (C : RoadKit.Fld Z h x ST "coder" "B" c0) (K : RoadKit.Arr Z h b A .char) (hty : Typed .char A) (S : RoadKit.Sta Z h ST "COMPACT_STRINGS" "Z" (.int z)) (hz : ¬ z = 0)
    (l0 : 0 < A.slots.size) (l2 : A.slots.size ≤ 536870912) (hp : ∀ i, i < A.slots.size → ¬ 255 < cv A i) (hfr : 4 ≤ R.frames) (hlo : W + 65 ≤ R.locals) :
    Back l R p e below s args New1.yN len W (fun P a => a = #[.ref x, .ref b] ∧ P.U.heap = h ∧ P.cells + 1 ≤ R.cells ∧ P.slots + A.slots.size ≤ R.slots)
      (fun P _ v B => ∃ L, Q Z x A h v B.U.heap L ∧ B.locs = P.locs ++ L ∧ B.cells = P.cells + 1 ∧ B.slots = P.slots + A.slots.size) := by
  intro m meth c P g ig mk a X hg hsize hdg hW hn hp'
  obtain ⟨rfl, rfl, r1, r2⟩ := hp'
  have al : Z.vm.Alike P.U.vm := hZ.alike.trans X.warmed.alike
  obtain ⟨D, cfV, kV, iV, fV, hD, gV, stV, knV, obV, asV, slV⟩ := id V
  obtain ⟨D', cfC, kC, iC, fC, hD', gC, stC, -, -, asC, slC⟩ := id C
  cases hD.symm.trans hD'
  obtain ⟨D2, kD, e1, e2, e3, e4, e5⟩ := id E
  cases hD.symm.trans e1
  obtain ⟨c2, k2, i1, i2, i3, -⟩ := Cond.instantiable_spec wi
  cases e2.symm.trans i1
  cases e3.symm.trans i2
  obtain ⟨kU, u1, u2⟩ := al.2.2 _ _ e3
  have hB : Blank ST x D P.U := ⟨hD, ⟨knV, fun q hq => by rw [hq] at obV; cases obV⟩, by rw [al.findClass]; exact e2, kU, u1, by rw [u2]; exact i3, by rw [u2]; exact e5 i3⟩
  have F1 : Found ST "value" "[B" fV P.U := ⟨SBG.found_only al ⟨cfV, kV, iV, gV⟩, stV⟩
  have F2 : Found ST "coder" "B" fC P.U := ⟨SBG.found_only al ⟨cfC, kC, iC, gC⟩, stC⟩
  have hA : Ch b A P.U := ⟨⟨K.1, State.isArrayOf_alike al K.2.1, K.2.2, by omega⟩, hty⟩
  have hS : StaticIs P.U ST "COMPACT_STRINGS" "Z" (.int z) := by
    obtain ⟨cfS, iS, kS, fS, st, cS, t1, t2, t3, t4, t5, t6, t7⟩ := S
    exact StaticIs.there (s := { Z with heap := P.U.heap }) ⟨cfS, iS, kS, fS, st, cS, t1, t2, t3, t4, t5, (fun q => by rw [q] at t6; cases t6), t7⟩ al rfl
  obtain ⟨v, B, X', ⟨⟨hv, E', V', q1, q2, q3, q4, q5, q6, q7, q8, q9, q10, q11⟩, hl, hc, hs⟩, st⟩ := New1.pays x D fV fC b A z (tab_of (moved hZ hw)) hfr hlo m meth c P g ig mk _ X hg hsize hdg hW hn ⟨r1, r2, rfl, hB, F1, F2, hA, hS, hz, l0, l2, hp⟩
  have al' : Z.vm.Alike B.U.vm := hZ.alike.trans X'.warmed.alike
  have hsz : E'.slots.size = D.slots.size := by
    obtain ⟨-, -, -, kB, w1, w2, w3⟩ := q1
    obtain ⟨kB', y1, y2⟩ := al'.2.2 _ _ e3
    rw [q2.2.1] at w1
    cases w1.symm.trans y1
    rw [w3, e5 i3, y2]
  refine ⟨v, B, X', ⟨_, ⟨hv, ?_, ⟨by omega, fun y cy hy hn' => q10 y cy (by simpa using hn') hy, fun y cy hy => ?_⟩, q11, ⟨E', _, q1.1, by rw [q2.2.1]; exact e2, by rw [q2.2.1]; exact e3, by rw [q2.1]; exact obV, fun _ => by rw [hsz]; exact e5 i3⟩,
    ⟨E', cfV, kV, iV, fV, q1.1, gV, stV, by rw [q2.1]; exact knV, by rw [q2.1]; exact obV, by rw [q2.2.1]; exact asV, q3⟩, ⟨E', cfC, kC, iC, fC, q1.1, gC, stC, by rw [q2.1]; exact knV, by rw [q2.1]; exact obV, by rw [q2.2.1]; exact asC, q4⟩,
    ⟨V', ⟨q5.1, State.isArrayOf_alike al'.symm q5.2.1, q5.2.2.1⟩, q6, by rw [← al'.findClass]; exact q7, q8, fun j hj => by have := q9 j hj; rwa [Nat.zero_add] at this⟩, fun O n d w F n1 n2 => ?_⟩, hl, hc, hs⟩, st⟩
  · intro y hy
    simp only [List.mem_cons, List.not_mem_nil, or_false] at hy
    rcases hy with rfl | rfl <;> rfl
  · by_cases q : y = x
    · subst q
      cases hD.symm.trans hy
      exact ⟨E', q1.1, q2.2.1, q2.1, hsz⟩
    · exact ⟨cy, q10 y cy q hy, rfl, rfl, rfl⟩
  · obtain ⟨D3, cf, k, i, f, g1, g2, g3, g4, g5, g6, g7⟩ := F
    cases hD.symm.trans g1
    simp only [RoadKit.slotOf, g2, gV, gC, Option.map_some, Option.getD_some] at n1 n2
    exact ⟨E', cf, k, i, f, q1.1, g2, g3, by rw [q2.1]; exact g4, by rw [q2.1]; exact g5, by rw [q2.2.1]; exact g6, by rw [q2.2.2 f.slot (by simp [n1, n2])]; exact g7⟩
end StrChars.Road
namespace StrChars.Road
open Jvm Sem ClassFile Op Lib Jvm.Stand Jvm.Free Jvm.Free.XT
/-- WHAT COMES BACK, the byte[] as a list of values -/
def QA (Z : State) (x : Addr) (zn : Int32) (cs : List Int32) (h : Heap) (v : Option Value) (h' : Heap) (L : List Loc) : Prop := v = none ∧ (∀ y ∈ L, y.base = x) ∧ RoadKit.Keep h h' [x] ∧ h'.size = h.size + 1 ∧ RoadKit.Exa Z h' x ST ∧ RoadKit.Fld Z h' x ST "value" "[B" (.ref h.size) ∧ RoadKit.Fld Z h' x ST "coder" "B" (.int 0) ∧
  (∃ kb, Z.vm.findClass "[B" = some kb ∧ RoadKit.Arv Z h' h.size kb .byte zn (cs.map fun c => .int (lo8 c)) (.int 0)) ∧
  ∀ (O n d : String) (w : Value), RoadKit.Fld Z h x O n d w → RoadKit.slotOf Z O n d ≠ RoadKit.slotOf Z ST "value" "[B" → RoadKit.slotOf Z O n d ≠ RoadKit.slotOf Z ST "coder" "B" → RoadKit.Fld Z h' x O n d w
/-- **new String(chars) AT A CALL, THE ARRAYS AS LISTS**: the char[] at b holds cs, not empty, no char above 255 -/
theorem backArv {p : Program} {l : Launch} {e : Env} {R : Room} {s : State} {args : Array Value} {below : List Frame} {len W : Nat} {Z : State} {a0 : Array Value} {h : Heap} (hZ : Z.Warmed39 s.vm) (hw : ∀ d ∈ words, d.before a0 Z = true) {kI : Nat} (wi : (Jvm.Cond.instantiable ST kI).before a0 Z = true)
    {x b : Addr} {k : ClassId} {zn z : Int32} {cs : List Int32} {dv v0 c0 : Value} (E : RoadKit.Exa Z h x ST) (V : RoadKit.Fld Z h x ST "value" "[B" v0) (C : RoadKit.Fld Z h x ST "coder" "B" c0) (K : RoadKit.Arv Z h b k .char zn (cs.map Value.int) dv) (S : RoadKit.Sta Z h ST "COMPACT_STRINGS" "Z" (.int z)) (hz : ¬ z = 0)
    (hlen : zn.toNatClampNeg = cs.length) (h0 : 0 < cs.length) (hbig : cs.length ≤ 536870912) (hall : ∀ c ∈ cs, ¬ 255 < c) (hfr : 4 ≤ R.frames) (hlo : W + 65 ≤ R.locals) :
    Back l R p e below s args New1.yN len W (fun P a => a = #[.ref x, .ref b] ∧ P.U.heap = h ∧ P.cells + 1 ≤ R.cells ∧ P.slots + cs.length ≤ R.slots)
      (fun P _ v B => ∃ L, QA Z x zn cs h v B.U.heap L ∧ B.locs = P.locs ++ L ∧ B.cells = P.cells + 1 ∧ B.slots = P.slots + cs.length) := by
  obtain ⟨A, K1, K2, K3, K4, K5, K6⟩ := K
  have e : A.slots.size = cs.length := K3.trans hlen
  have hat : ∀ (i : Nat) (hi : i < cs.length), A.slots[i]? = some (.int cs[i]) := fun i hi => by rw [K5 i (by omega)]; simp [List.getD_eq_getElem?_getD, hi]
  have hcv : ∀ (i : Nat) (hi : i < cs.length), cv A i = cs[i] := fun i hi => by unfold cv; rw [hat i hi]
  have hty : Typed .char A := fun i v hv => by
    have hi : i < A.slots.size := (Array.getElem?_eq_some_iff.mp hv).1
    have q := K5 i hi
    rw [hv] at q
    rw [Option.some.inj q]
    exact K6 i hi
  refine Back.mono (back hZ hw wi E V C K1 hty S hz (by omega) (by omega) (fun i hi => by rw [hcv i (by omega)]; exact hall _ (List.getElem_mem _)) hfr hlo) (fun P a hp => ⟨hp.1, hp.2.1, hp.2.2.1, by rw [e]; exact hp.2.2.2⟩) (fun P a v B hp hq => ?_)
  obtain ⟨L, ⟨q1, q2, q3, q4, q5, q6, q7, ⟨V', v1, v2, v3, v4, v5⟩, q9⟩, hl, hc, hs⟩ := hq
  refine ⟨L, ⟨q1, q2, q3, q4, q5, q6, q7, ⟨V'.cls, v3, V', v1, rfl, by rw [v4, e, hlen], K4, fun i hi => ?_, fun i hi => ?_⟩, q9⟩, hl, hc, by rw [hs, e]⟩
  · have hi' : i < cs.length := by omega
    rw [v5 i (by omega), hcv i hi']; simp [List.getD_eq_getElem?_getD, hi']
  · have hi' : i < cs.length := by omega
    simp only [List.getD_eq_getElem?_getD, List.getElem?_map, List.getElem?_eq_getElem hi', Option.map_some, Option.getD_some]
    exact fits_lo8 _
end StrChars.Road
namespace StrChars.Road
open Jvm Sem ClassFile Op Lib Jvm.Stand Jvm.Free Jvm.Free.XT
/-- WHAT COMES BACK, in the writer's own shape -/
def QV (Z : State) (x : Addr) (N : Int32) (bs : List Int32) (h : Heap) (n0 : Nat) (v : Option Value) (h' : Heap) (L : List Loc) : Prop := v = none ∧ RoadKit.Fr n0 L ∧ RoadKit.Keep h h' [x] ∧ RoadKit.Exa Z h' x ST ∧ RoadKit.Fld Z h' x ST "coder" "B" (.int 0) ∧
  ∃ (t : Addr) (kb : ClassId), n0 ≤ t ∧ h.size ≤ t ∧ ¬ t = x ∧ RoadKit.Fld Z h' x ST "value" "[B" (.ref t) ∧ RoadKit.Arv Z h' t kb .byte N (bs.map Value.int) (.int 0)
/-- **new String(chars) AT A CALL, FOR THE WRITER**: a char[] of n known ints, each 0 to 255 -/
theorem backV {p : Program} {l : Launch} {e : Env} {R : Room} {s : State} {args : Array Value} {below : List Frame} {len W : Nat} {Z : State} {a0 : Array Value} {h : Heap} (hZ : Z.Warmed39 s.vm) (hw : ∀ d ∈ words, d.before a0 Z = true) {kI : Nat} (wi : (Jvm.Cond.instantiable ST kI).before a0 Z = true)
    {x b : Addr} {kC : ClassId} {cs bs : List Int32} {d v0 c0 : Value} {z N : Int32} {n n0 : Nat} (hx0 : n0 ≤ x) (hh0 : n0 ≤ h.size) (E : RoadKit.Exa Z h x ST) (V : RoadKit.Fld Z h x ST "value" "[B" v0) (C : RoadKit.Fld Z h x ST "coder" "B" c0) (K : RoadKit.Arv Z h b kC .char N (cs.map Value.int) d) (S : RoadKit.Sta Z h ST "COMPACT_STRINGS" "Z" (.int z)) (hz : ¬ z = 0)
    (hn : cs.length = n) (hN : N = Int32.ofNat n) (l0 : 0 < n) (l2 : n ≤ 4000) (hp : ∀ c ∈ cs, ¬ c < 0 ∧ ¬ (255 : Int32) < c) (hb : bs = cs.map (fun c => c.toInt8.toInt32)) (hfr : 4 ≤ R.frames) (hlo : W + 65 ≤ R.locals) :
    Back l R p e below s args (⟨"java/lang/String", "<init>", "([C)V"⟩ : MethodName) len W (fun P a => a = #[.ref x, .ref b] ∧ P.U.heap = h ∧ P.cells + 1 ≤ R.cells ∧ P.slots + n ≤ R.slots)
      (fun P _ v B => ∃ L, QV Z x N bs h n0 v B.U.heap L ∧ B.locs = P.locs ++ L ∧ B.cells = P.cells + 1 ∧ B.slots = P.slots + n) := by
  subst hn hN hb
  refine Back.mono (backArv hZ hw wi E V C K S hz (n32 (by omega)) l0 (by omega) (fun c hc => (hp c hc).2) hfr hlo) (fun P a hp => hp) (fun P a v B hp hq => ?_)
  obtain ⟨L, ⟨q1, q2, q3, q4, q5, q6, q7, ⟨kb, v1, v2⟩, q9⟩, hl, hc, hs⟩ := hq
  exact ⟨L, ⟨q1, fun y hy => by rw [q2 y hy]; exact hx0, q3, q5, q7, h.size, kb, hh0, Nat.le_refl _, Nat.ne_of_gt E.lt, q6, by rw [List.map_map]; exact v2⟩, hl, hc, hs⟩
end StrChars.Road
namespace StrChars
open Jvm Sem ClassFile Op Lib Jvm.Stand Jvm.Free.XT Jvm.Free.ALB Jvm.Free.JM Jvm.Free
open Jvm.Lib.Cold (StaticIs)
def hi8 (x : Int32) : Int32 := lo8 (x >>> ((8 : Int32) &&& 31))
/-- what StringUTF16.getChar makes of two bytes -/
def pairCh (u v : Int32) : Int32 := (((u &&& 255) <<< ((0 : Int32) &&& 31)) ||| ((v &&& 255) <<< ((8 : Int32) &&& 31))).toUInt32.toUInt16.toUInt32.toInt32
theorem lo8_and (x : Int32) : (lo8 x &&& 255).toBitVec.toNat = x.toBitVec.toNat % 256 := by
  have h : (lo8 x).toBitVec = (x.toBitVec.signExtend 8).signExtend 32 := by rw [lo8, Int8.toBitVec_toInt32, Int32.toBitVec_toInt8]
  rw [Int32.toBitVec_and, BitVec.toNat_and, h]
  have e : ((x.toBitVec.signExtend 8).signExtend 32).toNat % 256 = x.toBitVec.toNat % 256 := by
    rw [BitVec.toNat_signExtend]
    have hlt := x.toBitVec.isLt
    simp only [BitVec.toNat_setWidth, BitVec.toNat_signExtend]
    split <;> split <;> omega
  rw [← e]
  exact Nat.and_two_pow_sub_one_eq_mod _ 8
theorem pair_says {c : Int32} (h0 : ¬ c < 0) (h1 : ¬ 65535 < c) : pairCh (lo8 c) (hi8 c) = c := by
  rw [Int32.lt_iff_toInt_lt] at h0 h1
  have e0 : (0 : Int32).toInt = 0 := rfl
  have e1 : (65535 : Int32).toInt = 65535 := rfl
  have hc : c.toInt = c.toBitVec.toNat := by
    have := c.toBitVec.isLt
    have e : c.toInt = c.toBitVec.toInt := rfl
    rw [e] at h0 h1
    rw [e]
    rw [BitVec.toInt_eq_toNat_cond] at h0 h1 ⊢
    split at h0 <;> split <;> omega
  have hn : c.toBitVec.toNat < 65536 := by omega
  have a1 := lo8_and c
  have a2 : (hi8 c &&& 255).toBitVec.toNat = c.toBitVec.toNat / 256 := by
    rw [hi8, lo8_and]
    have e : ((8 : Int32) &&& 31) = 8 := by decide
    rw [e, Int32.toBitVec_shiftRight]
    have e2 : ((8 : Int32).toBitVec.smod 32) = 8#32 := by decide
    rw [e2, BitVec.sshiftRight_eq', BitVec.toNat_sshiftRight_of_msb_false (by rw [BitVec.msb_eq_false_iff_two_mul_lt]; omega)]
    show c.toBitVec.toNat >>> 8 % 256 = _
    rw [Nat.shiftRight_eq_div_pow]
    omega
  unfold pairCh
  apply Int32.toBitVec_inj.mp
  apply BitVec.eq_of_toNat_eq
  have f0 : ((0 : Int32) &&& 31) = 0 := by decide
  have f8 : ((8 : Int32) &&& 31) = 8 := by decide
  rw [f0, f8]
  have g : (((lo8 c &&& 255) <<< (0 : Int32)) ||| ((hi8 c &&& 255) <<< (8 : Int32))).toBitVec.toNat = c.toBitVec.toNat := by
    rw [Int32.toBitVec_or, Int32.toBitVec_shiftLeft, Int32.toBitVec_shiftLeft]
    have s0 : ((0 : Int32).toBitVec.smod 32) = 0#32 := by decide
    have s8 : ((8 : Int32).toBitVec.smod 32) = 8#32 := by decide
    rw [s0, s8, BitVec.toNat_or]
    simp only [BitVec.shiftLeft_eq', BitVec.toNat_shiftLeft, a1, a2]
    show (c.toBitVec.toNat % 256) <<< 0 % 2 ^ 32 ||| (c.toBitVec.toNat / 256) <<< 8 % 2 ^ 32 = _
    rw [Nat.shiftLeft_zero, Nat.mod_eq_of_lt (show c.toBitVec.toNat % 256 < 2 ^ 32 by omega), Nat.mod_eq_of_lt (show (c.toBitVec.toNat / 256) <<< 8 < 2 ^ 32 by rw [Nat.shiftLeft_eq]; omega), Nat.or_comm, ← Nat.shiftLeft_add_eq_or_of_lt (by omega), Nat.shiftLeft_eq]
    omega
  show BitVec.toNat (((((lo8 c &&& 255) <<< (0 : Int32)) ||| ((hi8 c &&& 255) <<< (8 : Int32))).toBitVec.setWidth 16).setWidth 32) = _
  rw [BitVec.toNat_setWidth, BitVec.toNat_setWidth, g]
  omega
end StrChars
namespace StrChars
open Jvm Sem ClassFile Op Lib Jvm.Stand Jvm.Free.XT Jvm.Free.ALB Jvm.Free.JM Jvm.Free
open Jvm.Lib.Cold (StaticIs)
/-- the array's cell V codes the n chars f 0 .. f (n - 1) by the coder cd, as the JDK does: coder 1 just where some char is above 255 -/
def Cod (cd : Int32) (n : Nat) (f : Nat → Int32) (V : Cell) : Prop := (cd = 0 ∧ V.slots.size = n ∧ ∀ j, j < n → V.slots[j]? = some (.int (lo8 (f j))) ∧ ¬ 255 < f j) ∨ (cd = 1 ∧ V.slots.size = 2 * n ∧ (∀ j, j < n → V.slots[2 * j]? = some (.int (lo8 (f j))) ∧ V.slots[2 * j + 1]? = some (.int (hi8 (f j)))) ∧ ∃ j, j < n ∧ 255 < f j)
/-- **x is a String of the n chars f 0 .. f (n - 1)**, Latin-1 or UTF-16; its array at t has the cell V -/
def Txt (x t : Addr) (V : Cell) (cd : Int32) (n : Nat) (f : Nat → Int32) (U : State) : Prop := Exact "java/lang/String" x U ∧ Has x "java/lang/String" "value" "[B" (.ref t) U ∧ Has x "java/lang/String" "coder" "B" (.int cd) U ∧ XT.Arr .byte t V U ∧ Cod cd n f V ∧ ∀ j, j < n → ¬ f j < 0 ∧ ¬ 65535 < f j
theorem Txt.mv {x t : Addr} {V : Cell} {cd : Int32} {n : Nat} {f : Nat → Int32} {U U' : State} (h : Txt x t V cd n f U) (hal : U.vm.Alike U'.vm) (hh : U'.heap = U.heap) : Txt x t V cd n f U' := ⟨h.1.mv hal hh, h.2.1.mv hal hh, h.2.2.1.mv hal hh, h.2.2.2.1.mv hal hh, h.2.2.2.2⟩
end StrChars
namespace StrChars.Road
open Jvm Sem ClassFile Op Lib Jvm.Stand Jvm.Free Jvm.Free.XT
open Jvm.Lib.Cold (StaticIs)
theorem consq {a : Array Value} {s : State} {c : Jvm.Cond} {L : List Jvm.Cond} (h0 : c.before a s = true) (h : ∀ w ∈ L, w.before a s = true) : ∀ w ∈ c :: L, w.before a s = true := fun w hw => (List.mem_cons.mp hw).elim (fun e => e ▸ h0) (h w)
/-- the bytes of the chars cs, low before high -/
def wideBytes : List Int32 → List Value
  | [] => []
  | c :: cs => .int (lo8 c) :: .int (hi8 c) :: wideBytes cs
theorem wide_lo (d : Value) : ∀ (cs : List Int32) (j : Nat), j < cs.length → (wideBytes cs).getD (2 * j) d = .int (lo8 (cs.getD j 0))
  | [], j, h => absurd h (Nat.not_lt_zero j)
  | c :: cs, 0, _ => rfl
  | c :: cs, j + 1, h => by
    have q := wide_lo d cs j (by simpa using h)
    rw [show 2 * (j + 1) = 2 * j + 1 + 1 from by omega]
    simpa [wideBytes] using q
theorem wide_hi (d : Value) : ∀ (cs : List Int32) (j : Nat), j < cs.length → (wideBytes cs).getD (2 * j + 1) d = .int (hi8 (cs.getD j 0))
  | [], j, h => absurd h (Nat.not_lt_zero j)
  | c :: cs, 0, _ => rfl
  | c :: cs, j + 1, h => by
    have q := wide_hi d cs j (by simpa using h)
    rw [show 2 * (j + 1) + 1 = 2 * j + 1 + 1 + 1 from by omega]
    simpa [wideBytes] using q
theorem low_at (d : Value) (cs : List Int32) (j : Nat) (h : j < cs.length) : (cs.map fun c => Value.int (lo8 c)).getD j d = .int (lo8 (cs.getD j 0)) := by
  simp [List.getD_eq_getElem?_getD, h]
/-- an array of N2 bytes vs codes the chars cs by the coder cd -/
def CodA (cs : List Int32) (cd N2 : Int32) (vs : List Value) : Prop := (cd = 0 ∧ N2 = Int32.ofNat cs.length ∧ vs = (cs.map fun c => Value.int (lo8 c)) ∧ ∀ c ∈ cs, ¬ 255 < c) ∨ (cd = 1 ∧ N2 = Int32.ofNat (2 * cs.length) ∧ vs = wideBytes cs ∧ ∃ c ∈ cs, 255 < c)
theorem CodA.cod {cs : List Int32} {cd N2 : Int32} {vs : List Value} {V : Cell} (h : CodA cs cd N2 vs) (hn : 2 * cs.length < 2 ^ 31) (hs : V.slots.size = N2.toNatClampNeg) (hv : RoadKit.Has V vs (.int 0)) : Cod cd cs.length (fun j => cs.getD j 0) V := by
  rcases h with ⟨rfl, rfl, rfl, h⟩ | ⟨rfl, rfl, rfl, c, hc, hw⟩
  · rw [n32 (by omega)] at hs
    exact Or.inl ⟨rfl, hs, fun j hj => ⟨by rw [hv j (by omega), low_at _ _ _ hj], by
      have e : cs.getD j 0 = cs[j] := by simp [List.getD_eq_getElem?_getD, hj]
      show ¬ 255 < cs.getD j 0
      rw [e]; exact h _ (List.getElem_mem _)⟩⟩
  · rw [n32 (by omega)] at hs
    obtain ⟨j, hj, rfl⟩ := List.getElem_of_mem hc
    exact Or.inr ⟨rfl, hs, fun j hj => ⟨by rw [hv _ (by omega), wide_lo _ _ _ hj], by rw [hv _ (by omega), wide_hi _ _ _ hj]⟩, j, hj, by
      have e : cs.getD j 0 = cs[j] := by simp [List.getD_eq_getElem?_getD, hj]
      show 255 < cs.getD j 0
      rw [e]; exact hw⟩
/-- an object of exactly java/lang/String, its two fields found: as the laws ask it -/
theorem strObj {Z U : State} {a0 : Array Value} {kI : Nat} (wi : (Jvm.Cond.instantiable ST kI).before a0 Z = true) (al : Z.vm.Alike U.vm) {x : Addr} {v0 c0 : Value} (E : RoadKit.Exa Z U.heap x ST) (V : RoadKit.Fld Z U.heap x ST "value" "[B" v0) (C : RoadKit.Fld Z U.heap x ST "coder" "B" c0) :
    ∃ (D : Cell) (fV fC : Field), Blank ST x D U ∧ Found ST "value" "[B" fV U ∧ Found ST "coder" "B" fC U ∧ D.slots[fV.slot]? = some v0 ∧ D.slots[fC.slot]? = some c0 ∧ RoadKit.slotOf Z ST "value" "[B" = fV.slot ∧ RoadKit.slotOf Z ST "coder" "B" = fC.slot := by
  obtain ⟨D, cfV, kV, iV, fV, hD, gV, stV, knV, obV, asV, slV⟩ := V
  obtain ⟨D', cfC, kC, iC, fC, hD', gC, stC, -, -, asC, slC⟩ := C
  cases hD.symm.trans hD'
  obtain ⟨D2, kD, e1, e2, e3, e4, e5⟩ := E
  cases hD.symm.trans e1
  obtain ⟨c2, k2, i1, i2, i3, -⟩ := Cond.instantiable_spec wi
  cases e2.symm.trans i1
  cases e3.symm.trans i2
  obtain ⟨kU, u1, u2⟩ := al.2.2 _ _ e3
  exact ⟨D, fV, fC, ⟨hD, ⟨knV, fun q hq => by rw [hq] at obV; cases obV⟩, by rw [al.findClass]; exact e2, kU, u1, by rw [u2]; exact i3, by rw [u2]; exact e5 i3⟩, ⟨SBG.found_only al ⟨cfV, kV, iV, gV⟩, stV⟩, ⟨SBG.found_only al ⟨cfC, kC, iC, gC⟩, stC⟩, slV, slC, by simp [RoadKit.slotOf, gV], by simp [RoadKit.slotOf, gC]⟩
theorem sta_is {Z U : State} (al : Z.vm.Alike U.vm) {C n d : String} {v : Value} (S : RoadKit.Sta Z U.heap C n d v) : StaticIs U C n d v := by
  obtain ⟨cfS, iS, kS, fS, st, cS, t1, t2, t3, t4, t5, t6, t7⟩ := S
  exact StaticIs.there (s := { Z with heap := U.heap }) ⟨cfS, iS, kS, fS, st, cS, t1, t2, t3, t4, t5, (fun q => by rw [q] at t6; cases t6), t7⟩ al rfl
end StrChars.Road
namespace StrChars
open Jvm Sem ClassFile Op Lib Jvm.Stand Jvm.Free.XT Jvm.Free.ALB Jvm.Free.JM Jvm.Free
open Jvm.Lib.Cold (StaticIs)
/-- what place i of a byte[]'s cell holds -/
def yv (A : Cell) (i : Nat) : Int32 := match A.slots[i]? with | some (.int x) => x | _ => 0
theorem yv_get {a : Addr} {A : Cell} {U : State} (h : XT.Arr .byte a A U) (ht : Typed .byte A) {i : Nat} (hi : i < A.slots.size) : A.slots[i]? = some (.int (yv A i)) := by
  have e := Array.getElem?_eq_getElem hi
  have f := ht i _ e
  unfold yv; rw [e]
  generalize A.slots[i] = v at f
  cases v <;> simp [fits] at f ⊢
/-- the two arrays are equal, place for place -/
def EqC (A B : Cell) : Prop := A.slots.size = B.slots.size ∧ ∀ i, i < A.slots.size → yv A i = yv B i
/-- a boolean that says whether p -/
def Says01 (q : Prop) (r : Option Value) (s u : State) : Prop := ∃ v : Int32, r = some (.int v) ∧ u.heap = s.heap ∧ ((v = 1 ∧ q) ∨ (v = 0 ∧ ¬ q))
theorem Says01.mv {q : Prop} : ∀ r (U U' V V' : State), U'.heap = U.heap → V.vm.Alike V'.vm → V'.heap = V.heap → Says01 q r U V → Says01 q r U' V' :=
  fun r U U' V V' h1 _ h2 ⟨v, a, b, c⟩ => ⟨v, a, by rw [h1, h2]; exact b, c⟩
namespace LEq
def yN : MethodName := ⟨"java/lang/StringLatin1", "equals", "([B[B)Z"⟩
abbrev yB : ByteArray := jdk_43_method_13_code
theorem d0 : decode yB 0 = .ok (.aload_n 0, 1) := by decide +kernel
theorem d1 : decode yB 1 = .ok (.arraylength, 1) := by decide +kernel
theorem d2 : decode yB 2 = .ok (.aload_n 1, 1) := by decide +kernel
theorem d3 : decode yB 3 = .ok (.arraylength, 1) := by decide +kernel
theorem d4 : decode yB 4 = .ok (.if_icmp (.ne) 30, 3) := by decide +kernel
theorem d7 : decode yB 7 = .ok (.iconst 0, 1) := by decide +kernel
theorem d8 : decode yB 8 = .ok (.istore_n 2, 1) := by decide +kernel
theorem d9 : decode yB 9 = .ok (.iload_n 2, 1) := by decide +kernel
theorem d10 : decode yB 10 = .ok (.aload_n 0, 1) := by decide +kernel
theorem d11 : decode yB 11 = .ok (.arraylength, 1) := by decide +kernel
theorem d12 : decode yB 12 = .ok (.if_icmp (.ge) 20, 3) := by decide +kernel
theorem d15 : decode yB 15 = .ok (.aload_n 0, 1) := by decide +kernel
theorem d16 : decode yB 16 = .ok (.iload_n 2, 1) := by decide +kernel
theorem d17 : decode yB 17 = .ok (.baload, 1) := by decide +kernel
theorem d18 : decode yB 18 = .ok (.aload_n 1, 1) := by decide +kernel
theorem d19 : decode yB 19 = .ok (.iload_n 2, 1) := by decide +kernel
theorem d20 : decode yB 20 = .ok (.baload, 1) := by decide +kernel
theorem d21 : decode yB 21 = .ok (.if_icmp (.eq) 5, 3) := by decide +kernel
theorem d24 : decode yB 24 = .ok (.iconst 0, 1) := by decide +kernel
theorem d25 : decode yB 25 = .ok (.ireturn, 1) := by decide +kernel
theorem d26 : decode yB 26 = .ok (.iinc 2 1, 3) := by decide +kernel
theorem d29 : decode yB 29 = .ok (.goto (-20), 3) := by decide +kernel
theorem d32 : decode yB 32 = .ok (.iconst 1, 1) := by decide +kernel
theorem d33 : decode yB 33 = .ok (.ireturn, 1) := by decide +kernel
theorem d34 : decode yB 34 = .ok (.iconst 0, 1) := by decide +kernel
theorem d35 : decode yB 35 = .ok (.ireturn, 1) := by decide +kernel
def site : List Cond := []
def tab : Cond := tabOf yN yB 3 (some .boolean) site
def P (a : Addr) (A : Cell) (b : Addr) (B : Cell) (args : Array Value) (s : State) : Prop := args = #[.ref a, .ref b] ∧ XT.Arr .byte a A s ∧ Typed .byte A ∧ XT.Arr .byte b B s ∧ Typed .byte B
/-- whether two byte[] are equal, place for place -/
theorem law (l : Launch) (a : Addr) (A : Cell) (b : Addr) (B : Cell) : Law l yN 2 2 0 0 yB 3 (some .boolean) site (P a A b B) (Says01 (EqC A B)) [] 0 0 := by
  refine Law.of_walk (plainFor_of_name (by decide +kernel)) (by decide +kernel) (by decide +kernel) (by decide) (fun _ _ h => by rw [h.1]; rfl) (fun _ U U' hal hh h => ⟨h.1, h.2.1.mv hal hh, h.2.2.1, h.2.2.2.1.mv hal hh, h.2.2.2.2⟩) (fun r U U' V V' h1 hal h2 h => Says01.mv r U U' V V' h1 hal h2 h) ?_
  intro p e s m args below meth c s₁ X0 hexec hbytes hml hret hlk hnm hown hh0 W hP
  obtain ⟨rfl, hA, tA, hB, tB⟩ := hP
  have a31 := hA.2.2.2
  have b31 := hB.2.2.2
  have hA0 := hA.mv X0.warmed.alike hh0
  have hB0 := hB.mv X0.warmed.alike hh0
  have c1 : Steps p.tables e below (s₁.setTop (entryFrame m #[.ref a, .ref b] 3)) (s₁.setTop (mkF m 0 #[.val (.ref a), .val (.ref b), .unset] [])) := entry rfl
  have c2 : Steps p.tables e below (s₁.setTop (entryFrame m #[.ref a, .ref b] 3)) (s₁.setTop (mkF m 4 #[.val (.ref a), .val (.ref b), .unset] [.int (Int32.ofNat B.slots.size), .int (Int32.ofNat A.slots.size)])) := c1.trans (by
    refine XS.aloadN X0.here hexec rfl (hb hbytes d0) rfl rfl ?_
    refine X0.alen hexec hA0 rfl rfl (hb hbytes d1) ?_
    refine XS.aloadN X0.here hexec rfl (hb hbytes d2) rfl rfl ?_
    refine X0.alen hexec hB0 rfl rfl (hb hbytes d3) ?_
    exact Steps.refl _)
  by_cases hs : A.slots.size = B.slots.size
  · have c3 : Steps p.tables e below (s₁.setTop (entryFrame m #[.ref a, .ref b] 3)) (s₁.setTop (mkF m 9 #[.val (.ref a), .val (.ref b), .val (.int 0)] [])) := c2.trans (by
      refine XS.icmpNo X0.here hexec rfl (hb hbytes d4) rfl (ii_ne_f (by rw [hs])) ?_
      refine iconstV X0.here hexec rfl 0 (hb hbytes d7) (by decide) ?_
      refine XS.istoreN X0.here hexec rfl (hb hbytes d8) rfl rfl ?_
      exact Steps.refl _)
    have loop : ∀ (r i : Nat), i + r = A.slots.size → (∀ j, j < i → yv A j = yv B j) → Steps p.tables e below (s₁.setTop (entryFrame m #[.ref a, .ref b] 3)) (s₁.setTop (mkF m 9 #[.val (.ref a), .val (.ref b), .val (.int (Int32.ofNat i))] [])) → ∃ (pc : Nat) (Ls : Array Slot) (v : Int32), (pc = 25 ∨ pc = 33) ∧ ((v = 1 ∧ EqC A B) ∨ (v = 0 ∧ ¬ EqC A B)) ∧ Steps p.tables e below (s₁.setTop (entryFrame m #[.ref a, .ref b] 3)) (s₁.setTop (mkF m pc Ls [.int v])) := by
      intro r
      induction r with
      | zero =>
        intro i hi he cl
        exact ⟨33, _, 1, Or.inr rfl, Or.inl ⟨rfl, hs, fun j hj => he j (by omega)⟩, cl.trans (by
          refine XS.iloadN X0.here hexec rfl (hb hbytes d9) rfl ?_
          refine XS.aloadN X0.here hexec rfl (hb hbytes d10) rfl rfl ?_
          refine X0.alen hexec hA0 rfl rfl (hb hbytes d11) ?_
          refine XS.icmpYes X0.here hexec rfl (pc0 := 12) rfl (hb hbytes d12) rfl (ii_ge_t (nlt32 (by omega) (by omega))) (by decide) rfl ?_
          refine iconstV X0.here hexec rfl 1 (hb hbytes d32) (by decide) ?_
          exact Steps.refl _)⟩
      | succ r ih =>
        intro i hi he cl
        have c4 : Steps p.tables e below (s₁.setTop (entryFrame m #[.ref a, .ref b] 3)) (s₁.setTop (mkF m 21 #[.val (.ref a), .val (.ref b), .val (.int (Int32.ofNat i))] [.int (yv B i), .int (yv A i)])) := cl.trans (by
          refine XS.iloadN X0.here hexec rfl (hb hbytes d9) rfl ?_
          refine XS.aloadN X0.here hexec rfl (hb hbytes d10) rfl rfl ?_
          refine X0.alen hexec hA0 rfl rfl (hb hbytes d11) ?_
          refine XS.icmpNo X0.here hexec rfl (hb hbytes d12) rfl (ii_ge_f (lt32 (by omega) (by omega))) ?_
          refine XS.aloadN X0.here hexec rfl (hb hbytes d15) rfl rfl ?_
          refine XS.iloadN X0.here hexec rfl (hb hbytes d16) rfl ?_
          refine X0.aget hexec hA0 rfl (yv_get hA tA (i := i) (by omega)) rfl rfl (hb hbytes d17) ?_
          refine XS.aloadN X0.here hexec rfl (hb hbytes d18) rfl rfl ?_
          refine XS.iloadN X0.here hexec rfl (hb hbytes d19) rfl ?_
          refine X0.aget hexec hB0 rfl (yv_get hB tB (i := i) (by omega)) rfl rfl (hb hbytes d20) ?_
          exact Steps.refl _)
        by_cases hv : yv A i = yv B i
        · have c5 : Steps p.tables e below (s₁.setTop (entryFrame m #[.ref a, .ref b] 3)) (s₁.setTop (mkF m 9 #[.val (.ref a), .val (.ref b), .val (.int (Int32.ofNat i + 1))] [])) := c4.trans (by
            refine XS.icmpYes X0.here hexec rfl (pc0 := 21) rfl (hb hbytes d21) rfl (ii_eq_t hv) (by decide) rfl ?_
            refine iincV X0.here hexec rfl 1 (hb hbytes d26) (by decide) rfl rfl ?_
            refine XS.goto X0.here hexec rfl (pc0 := 29) rfl (hb hbytes d29) (by decide) rfl ?_
            exact Steps.refl _)
          rw [succ32] at c5
          exact ih (i + 1) (by omega) (fun j hj => by
            by_cases e : j = i
            · rw [e]; exact hv
            · exact he j (by omega)) c5
        · exact ⟨25, _, 0, Or.inl rfl, Or.inr ⟨rfl, fun q => hv (q.2 i (by omega))⟩, c4.trans (by
            refine XS.icmpNo X0.here hexec rfl (hb hbytes d21) rfl (ii_eq_f hv) ?_
            refine iconstV X0.here hexec rfl 0 (hb hbytes d24) (by decide) ?_
            exact Steps.refl _)⟩
    obtain ⟨pc, Ls, v, hpc, hv, cz⟩ := loop A.slots.size 0 (by omega) (fun j hj => absurd hj (Nat.not_lt_zero j)) c3
    have nv : narrow .boolean (.int v) = .int v := by rcases hv with ⟨rfl, -⟩ | ⟨rfl, -⟩ <;> rfl
    rcases hpc with rfl | rfl
    · exact ⟨s₁, some (.int v), _, _, _, X0, rfl, rfl, rfl, (fun h => by cases h), ⟨v, rfl, hh0, hv⟩, fun fs hl => cz.trans (X0.ireturnOut hexec hret nv (Or.inr (Or.inl rfl)) (hb hbytes d25) hl)⟩
    · exact ⟨s₁, some (.int v), _, _, _, X0, rfl, rfl, rfl, (fun h => by cases h), ⟨v, rfl, hh0, hv⟩, fun fs hl => cz.trans (X0.ireturnOut hexec hret nv (Or.inr (Or.inl rfl)) (hb hbytes d33) hl)⟩
  · have c3 : Steps p.tables e below (s₁.setTop (entryFrame m #[.ref a, .ref b] 3)) (s₁.setTop (mkF m 35 #[.val (.ref a), .val (.ref b), .unset] [.int 0])) := c2.trans (by
      refine XS.icmpYes X0.here hexec rfl (pc0 := 4) rfl (hb hbytes d4) rfl (ii_ne_t (ne32 a31 b31 hs)) (by decide) rfl ?_
      refine iconstV X0.here hexec rfl 0 (hb hbytes d34) (by decide) ?_
      exact Steps.refl _)
    exact ⟨s₁, some (.int 0), _, _, _, X0, rfl, rfl, rfl, (fun h => by cases h), ⟨0, rfl, hh0, Or.inr ⟨rfl, fun q => hs q.1⟩⟩, fun fs hl => c3.trans (X0.ireturnOut hexec hret rfl (Or.inr (Or.inl rfl)) (hb hbytes d35) hl)⟩
end LEq
theorem Cod.ty {cd : Int32} {n : Nat} {f : Nat → Int32} {V : Cell} (h : Cod cd n f V) : Typed .byte V := fun i v hv => by
  have hi : i < V.slots.size := (Array.getElem?_eq_some_iff.mp hv).1
  rcases h with ⟨-, k1, k2⟩ | ⟨-, k1, k2, -⟩
  · rw [(k2 i (by omega)).1] at hv; cases hv; exact fits_lo8 _
  · rcases Nat.mod_two_eq_zero_or_one i with e | e
    · obtain ⟨j, rfl⟩ : ∃ j, i = 2 * j := ⟨i / 2, by omega⟩
      rw [(k2 j (by omega)).1] at hv; cases hv; exact fits_lo8 _
    · obtain ⟨j, rfl⟩ : ∃ j, i = 2 * j + 1 := ⟨i / 2, by omega⟩
      rw [(k2 j (by omega)).2] at hv; cases hv; exact fits_lo8 _
/-- the same text -/
def SameT (n : Nat) (f : Nat → Int32) (k : Nat) (g : Nat → Int32) : Prop := n = k ∧ ∀ j, j < n → f j = g j
theorem lo8_inj {x y : Int32} (h0 : ¬ x < 0) (h1 : ¬ 255 < x) (k0 : ¬ y < 0) (k1 : ¬ 255 < y) (h : lo8 x = lo8 y) : x = y := by
  rw [← lo8_mask h0 h1, ← lo8_mask k0 k1, h]
/-- arrays coded by one coder are equal just where the texts are -/
theorem Cod.eqv {cd : Int32} {n k : Nat} {f g : Nat → Int32} {V V' : Cell} (h : Cod cd n f V) (h' : Cod cd k g V') (hf : ∀ j, j < n → ¬ f j < 0 ∧ ¬ 65535 < f j) (hg : ∀ j, j < k → ¬ g j < 0 ∧ ¬ 65535 < g j) : EqC V V' ↔ SameT n f k g := by
  have yvv : ∀ {W : Cell} {i : Nat} {x : Int32}, W.slots[i]? = some (.int x) → yv W i = x := fun q => by unfold yv; rw [q]
  rcases h with ⟨rfl, k1, k2⟩ | ⟨rfl, k1, k2, -⟩
  · rcases h' with ⟨-, m1, m2⟩ | ⟨e, -⟩
    · constructor
      · rintro ⟨e1, e2⟩
        refine ⟨by omega, fun j hj => ?_⟩
        have q := e2 j (by omega)
        rw [yvv (k2 j hj).1, yvv (m2 j (by omega)).1] at q
        exact lo8_inj (hf j hj).1 (k2 j hj).2 (hg j (by omega)).1 (m2 j (by omega)).2 q
      · rintro ⟨rfl, e2⟩
        refine ⟨by omega, fun j hj => ?_⟩
        rw [yvv (k2 j (by omega)).1, yvv (m2 j (by omega)).1, e2 j (by omega)]
    · exact absurd e (by decide)
  · rcases h' with ⟨e, -⟩ | ⟨-, m1, m2, -⟩
    · exact absurd e (by decide)
    · constructor
      · rintro ⟨e1, e2⟩
        refine ⟨by omega, fun j hj => ?_⟩
        have q1 := e2 (2 * j) (by omega)
        have q2 := e2 (2 * j + 1) (by omega)
        rw [yvv (k2 j hj).1, yvv (m2 j (by omega)).1] at q1
        rw [yvv (k2 j hj).2, yvv (m2 j (by omega)).2] at q2
        rw [← pair_says (hf j hj).1 (hf j hj).2, ← pair_says (hg j (by omega)).1 (hg j (by omega)).2, q1, q2]
      · rintro ⟨rfl, e2⟩
        refine ⟨by omega, fun i hi => ?_⟩
        rcases Nat.mod_two_eq_zero_or_one i with e | e
        · obtain ⟨j, rfl⟩ : ∃ j, i = 2 * j := ⟨i / 2, by omega⟩
          rw [yvv (k2 j (by omega)).1, yvv (m2 j (by omega)).1, e2 j (by omega)]
        · obtain ⟨j, rfl⟩ : ∃ j, i = 2 * j + 1 := ⟨i / 2, by omega⟩
          rw [yvv (k2 j (by omega)).2, yvv (m2 j (by omega)).2, e2 j (by omega)]
/-- two codings differ: so do the texts -/
theorem Cod.dif {cd cd' : Int32} {n k : Nat} {f g : Nat → Int32} {V V' : Cell} (h : Cod cd n f V) (h' : Cod cd' k g V') (hne : ¬ cd = cd') : ¬ SameT n f k g := by
  rintro ⟨rfl, e⟩
  rcases h with ⟨rfl, -, k2⟩ | ⟨rfl, -, -, j, hj, hw⟩
  · rcases h' with ⟨rfl, -⟩ | ⟨-, -, -, j, hj, hw⟩
    · exact hne rfl
    · exact (k2 j hj).2 (by rw [e j hj]; exact hw)
  · rcases h' with ⟨-, -, m2⟩ | ⟨rfl, -⟩
    · exact (m2 j hj).2 (by rw [← e j hj]; exact hw)
    · exact hne rfl
/-- an object of exactly C is an instance of C -/
theorem cinst {p : Program} {l : Launch} {e : Env} {R : Room} {s : State} {m : MethodId} {args : Array Value} {below : List Frame} {meth : Method} {c : Code} {T : State} {locs : List Loc} {cells slots : Nat} (X : Stand p l e R s m args below meth c T locs cells slots) (hexec : p.tables.exec = Jvm.exec) {own C : String} {index : Nat} (hown : s.vm.findClass own = some m.cls) (hlink : (Cond.classLink own index C).before args s = true) {a : Addr} (hE : Exact C a T)
    {g : JFrame} (hg : g.method = m) {rest : List Value} (hstack : g.stack = .ref a :: rest) (hdg : decode c.code g.pc = .ok (.instanceof index, 3)) :
    ∃ T', Stand p l e R s m args below meth c T' locs cells slots ∧ T'.heap = T.heap ∧ ∀ target, Steps p.tables e below (T'.setTop { g with pc := g.pc + 3, stack := .int 1 :: rest }) target → Steps p.tables e below (T.setTop g) target := by
  obtain ⟨cB, h1, D, h2, h3, h4⟩ := hE
  have h1' : s.vm.findClass C = some cB := by rw [← X.warmed.alike.findClass]; exact h1
  obtain ⟨vm', X', st⟩ := X.instanceofYes hexec hown hlink h2 h4 h1' (by rw [h3]; exact Jvm.Free.SB.assignable_self _ _) hg hstack hdg
  exact ⟨_, X', rfl, st⟩
theorem cself {p : Program} {l : Launch} {e : Env} {R : Room} {s : State} {m : MethodId} {args : Array Value} {below : List Frame} {meth : Method} {c : Code} {T : State} {locs : List Loc} {cells slots : Nat} (X : Stand p l e R s m args below meth c T locs cells slots) (hexec : p.tables.exec = Jvm.exec) {own C : String} {index : Nat} (hown : s.vm.findClass own = some m.cls) (hlink : (Cond.classLink own index C).before args s = true) {a : Addr} (hE : Exact C a T)
    {g : JFrame} (hg : g.method = m) {rest : List Value} (hstack : g.stack = .ref a :: rest) (hdg : decode c.code g.pc = .ok (.checkcast index, 3)) :
    ∃ T', Stand p l e R s m args below meth c T' locs cells slots ∧ T'.heap = T.heap ∧ ∀ target, Steps p.tables e below (T'.setTop { g with pc := g.pc + 3, stack := .ref a :: rest }) target → Steps p.tables e below (T.setTop g) target := by
  obtain ⟨cB, h1, D, h2, h3, h4⟩ := hE
  have h1' : s.vm.findClass C = some cB := by rw [← X.warmed.alike.findClass]; exact h1
  obtain ⟨vm', X', st⟩ := X.checkcastYes hexec hown hlink h2 h4 h1' (by rw [h3]; exact Jvm.Free.SB.assignable_self _ _) hg hstack hdg
  exact ⟨_, X', rfl, fun t h => st t (by rw [← hstack] at h; exact h)⟩
namespace SEq
def yN : MethodName := ⟨"java/lang/String", "equals", "(Ljava/lang/Object;)Z"⟩
abbrev yB : ByteArray := jdk_42_method_66_code
theorem d0 : decode yB 0 = .ok (.aload_n 0, 1) := by decide +kernel
theorem d1 : decode yB 1 = .ok (.aload_n 1, 1) := by decide +kernel
theorem d2 : decode yB 2 = .ok (.if_acmp (.ne) 5, 3) := by decide +kernel
theorem d5 : decode yB 5 = .ok (.iconst 1, 1) := by decide +kernel
theorem d6 : decode yB 6 = .ok (.ireturn, 1) := by decide +kernel
theorem d7 : decode yB 7 = .ok (.aload_n 1, 1) := by decide +kernel
theorem d8 : decode yB 8 = .ok (.instanceof 10, 3) := by decide +kernel
theorem d11 : decode yB 11 = .ok (.ifCond (.eq) 43, 3) := by decide +kernel
theorem d14 : decode yB 14 = .ok (.aload_n 1, 1) := by decide +kernel
theorem d15 : decode yB 15 = .ok (.checkcast 10, 3) := by decide +kernel
theorem d18 : decode yB 18 = .ok (.astore_n 2, 1) := by decide +kernel
theorem d19 : decode yB 19 = .ok (.getstatic 38, 3) := by decide +kernel
theorem d22 : decode yB 22 = .ok (.ifCond (.eq) 14, 3) := by decide +kernel
theorem d25 : decode yB 25 = .ok (.aload_n 0, 1) := by decide +kernel
theorem d26 : decode yB 26 = .ok (.getfield 15, 3) := by decide +kernel
theorem d29 : decode yB 29 = .ok (.aload_n 2, 1) := by decide +kernel
theorem d30 : decode yB 30 = .ok (.getfield 15, 3) := by decide +kernel
theorem d33 : decode yB 33 = .ok (.if_icmp (.ne) 21, 3) := by decide +kernel
theorem d36 : decode yB 36 = .ok (.aload_n 0, 1) := by decide +kernel
theorem d37 : decode yB 37 = .ok (.getfield 9, 3) := by decide +kernel
theorem d40 : decode yB 40 = .ok (.aload_n 2, 1) := by decide +kernel
theorem d41 : decode yB 41 = .ok (.getfield 9, 3) := by decide +kernel
theorem d44 : decode yB 44 = .ok (.invokestatic 541, 3) := by decide +kernel
theorem d47 : decode yB 47 = .ok (.ifCond (.eq) 7, 3) := by decide +kernel
theorem d50 : decode yB 50 = .ok (.iconst 1, 1) := by decide +kernel
theorem d51 : decode yB 51 = .ok (.goto 4, 3) := by decide +kernel
theorem d54 : decode yB 54 = .ok (.iconst 0, 1) := by decide +kernel
theorem d55 : decode yB 55 = .ok (.ireturn, 1) := by decide +kernel
def site : List Cond := [.classLink "java/lang/String" 10 "java/lang/String", .fieldLink "java/lang/String" 38 "java/lang/String" "COMPACT_STRINGS" "Z", .fieldLink "java/lang/String" 15 "java/lang/String" "coder" "B", .fieldLink "java/lang/String" 9 "java/lang/String" "value" "[B", LEq.tab] ++ staticW "java/lang/String" 541 LEq.yN
def tab : Cond := tabOf yN yB 3 (some .boolean) site
def P (x t : Addr) (V : Cell) (cd : Int32) (n : Nat) (f : Nat → Int32) (y t' : Addr) (V' : Cell) (cd' : Int32) (k : Nat) (g : Nat → Int32) (z : Int32) (args : Array Value) (s : State) : Prop := args = #[.ref x, .ref y] ∧ Txt x t V cd n f s ∧ Txt y t' V' cd' k g s ∧ StaticIs s "java/lang/String" "COMPACT_STRINGS" "Z" (.int z) ∧ ¬ z = 0
/-- equals(Object) of two Strings: whether the texts are the same -/
theorem law (l : Launch) (x t : Addr) (V : Cell) (cd : Int32) (n : Nat) (f : Nat → Int32) (y t' : Addr) (V' : Cell) (cd' : Int32) (k : Nat) (g : Nat → Int32) (z : Int32) : Law l yN 2 1 1 14 yB 3 (some .boolean) site (P x t V cd n f y t' V' cd' k g z) (Says01 (SameT n f k g)) [] 0 0 := by
  refine Law.of_walk (plainFor_of_name (by decide +kernel)) (by decide +kernel) (by decide +kernel) (by decide) (fun _ _ h => by rw [h.1]; rfl) (fun _ U U' hal hh h => ⟨h.1, h.2.1.mv hal hh, h.2.2.1.mv hal hh, h.2.2.2.1.there hal hh, h.2.2.2.2⟩) (fun r U U' V V' h1 hal h2 h => Says01.mv r U U' V V' h1 hal h2 h) ?_
  intro p e s m args below meth c s₁ X0 hexec hbytes hml hret hlk hnm hown hh0 W hP
  obtain ⟨rfl, hx, hy, s1, hz⟩ := hP
  have c1 : Steps p.tables e below (s₁.setTop (entryFrame m #[.ref x, .ref y] 3)) (s₁.setTop (mkF m 2 #[.val (.ref x), .val (.ref y), .unset] [.ref y, .ref x])) := Steps.trans (entry rfl) (by
    show Steps p.tables e below (s₁.setTop (mkF m 0 #[.val (.ref x), .val (.ref y), .unset] [])) _
    refine XS.aloadN X0.here hexec rfl (hb hbytes d0) rfl rfl ?_
    refine XS.aloadN X0.here hexec rfl (hb hbytes d1) rfl rfl ?_
    exact Steps.refl _)
  by_cases hxy : x = y
  · have c2 : Steps p.tables e below (s₁.setTop (entryFrame m #[.ref x, .ref y] 3)) (s₁.setTop (mkF m 6 #[.val (.ref x), .val (.ref y), .unset] [.int 1])) := c1.trans (by
      refine acmpNo X0.here hexec rfl (hb hbytes d2) rfl rfl rfl (by simp [acmp, hxy]) ?_
      refine iconstV X0.here hexec rfl 1 (hb hbytes d5) (by decide) ?_
      exact Steps.refl _)
    subst hxy
    have ec : cd = cd' := by
      obtain ⟨D, fd, a1, a2, a3⟩ := hx.2.2.1
      obtain ⟨D', fd', b1, b2, b3⟩ := hy.2.2.1
      cases a1.symm.trans b1
      obtain ⟨q1, q2, q3, q4⟩ := a2.1
      obtain ⟨r1, r2, r3, r4⟩ := b2.1
      cases q4.symm.trans r4
      cases a3.symm.trans b3; rfl
    have et : t = t' := by
      obtain ⟨D, fd, a1, a2, a3⟩ := hx.2.1
      obtain ⟨D', fd', b1, b2, b3⟩ := hy.2.1
      cases a1.symm.trans b1
      obtain ⟨q1, q2, q3, q4⟩ := a2.1
      obtain ⟨r1, r2, r3, r4⟩ := b2.1
      cases q4.symm.trans r4
      cases a3.symm.trans b3; rfl
    subst ec et
    have ev : V = V' := by cases hx.2.2.2.1.1.symm.trans hy.2.2.2.1.1; rfl
    subst ev
    have hs : SameT n f k g := (Cod.eqv hx.2.2.2.2.1 hy.2.2.2.2.1 hx.2.2.2.2.2 hy.2.2.2.2.2).mp ⟨rfl, fun _ _ => rfl⟩
    exact ⟨s₁, some (.int 1), _, _, _, X0, rfl, rfl, rfl, (fun h => by cases h), ⟨1, rfl, hh0, Or.inl ⟨rfl, hs⟩⟩, fun fs hl => c2.trans (X0.ireturnOut hexec hret rfl (Or.inr (Or.inl rfl)) (hb hbytes d6) hl)⟩
  · have c2 : Steps p.tables e below (s₁.setTop (entryFrame m #[.ref x, .ref y] 3)) (s₁.setTop (mkF m 8 #[.val (.ref x), .val (.ref y), .unset] [.ref y])) := c1.trans (by
      refine acmpYes X0.here hexec rfl (pc0 := 2) rfl (hb hbytes d2) rfl rfl rfl (by simp [acmp, hxy]) (by decide) rfl ?_
      refine XS.aloadN X0.here hexec rfl (hb hbytes d7) rfl rfl ?_
      exact Steps.refl _)
    obtain ⟨T3, X3, q3, st3⟩ := cinst X0 hexec hown (wk W (.classLink "java/lang/String" 10 "java/lang/String")) (hy.mv X0.warmed.alike hh0).1 (g := (mkF m 8 #[.val (.ref x), .val (.ref y), .unset] [.ref y])) rfl (rest := []) rfl (hb hbytes d8)
    have hh3 := q3.trans hh0
    have c4 : Steps p.tables e below (s₁.setTop (entryFrame m #[.ref x, .ref y] 3)) (T3.setTop (mkF m 15 #[.val (.ref x), .val (.ref y), .unset] [.ref y])) := (c2.trans (st3 _ (Steps.refl _))).trans (by
      refine XS.ifNo X3.here hexec rfl (hb hbytes d11) rfl (i0_eq_f (by decide)) ?_
      refine XS.aloadN X3.here hexec rfl (hb hbytes d14) rfl rfl ?_
      exact Steps.refl _)
    obtain ⟨T5, X5, q5, st5⟩ := cself X3 hexec hown (wk W (.classLink "java/lang/String" 10 "java/lang/String")) (hy.mv X3.warmed.alike hh3).1 (g := (mkF m 15 #[.val (.ref x), .val (.ref y), .unset] [.ref y])) rfl (rest := []) rfl (hb hbytes d15)
    have hh5 := q5.trans hh3
    have c6 : Steps p.tables e below (s₁.setTop (entryFrame m #[.ref x, .ref y] 3)) (T5.setTop (mkF m 19 #[.val (.ref x), .val (.ref y), .val (.ref y)] [])) := (c4.trans (st5 _ (Steps.refl _))).trans (by
      refine XS.astoreN X5.here hexec rfl (hb hbytes d18) rfl rfl rfl ?_
      exact Steps.refl _)
    obtain ⟨T7, X7, q7, st7⟩ := X5.sget hexec hown (wk W (.fieldLink "java/lang/String" 38 "java/lang/String" "COMPACT_STRINGS" "Z")) s1 (fun _ _ h => by rw [hh5]; exact h) (g := (mkF m 19 #[.val (.ref x), .val (.ref y), .val (.ref y)] [])) rfl (hb hbytes d19)
    have hh7 := q7.trans hh5
    have c8 : Steps p.tables e below (s₁.setTop (entryFrame m #[.ref x, .ref y] 3)) (T7.setTop (mkF m 26 #[.val (.ref x), .val (.ref y), .val (.ref y)] [.ref x])) := (c6.trans (st7 _ (Steps.refl _))).trans (by
      refine XS.ifNo X7.here hexec rfl (hb hbytes d22) rfl (i0_eq_f hz) ?_
      refine XS.aloadN X7.here hexec rfl (hb hbytes d25) rfl rfl ?_
      exact Steps.refl _)
    obtain ⟨T9, X9, q9, st9⟩ := X7.hget hexec hown (wk W (.fieldLink "java/lang/String" 15 "java/lang/String" "coder" "B")) (hx.mv X7.warmed.alike hh7).2.2.1 (g := (mkF m 26 #[.val (.ref x), .val (.ref y), .val (.ref y)] [.ref x])) rfl (rest := []) rfl (hb hbytes d26)
    have hh9 := q9.trans hh7
    have c10 : Steps p.tables e below (s₁.setTop (entryFrame m #[.ref x, .ref y] 3)) (T9.setTop (mkF m 30 #[.val (.ref x), .val (.ref y), .val (.ref y)] [.ref y, .int cd])) := (c8.trans (st9 _ (Steps.refl _))).trans (by
      refine XS.aloadN X9.here hexec rfl (hb hbytes d29) rfl rfl ?_
      exact Steps.refl _)
    obtain ⟨T11, X11, q11, st11⟩ := X9.hget hexec hown (wk W (.fieldLink "java/lang/String" 15 "java/lang/String" "coder" "B")) (hy.mv X9.warmed.alike hh9).2.2.1 (g := (mkF m 30 #[.val (.ref x), .val (.ref y), .val (.ref y)] [.ref y, .int cd])) rfl (rest := [.int cd]) rfl (hb hbytes d30)
    have hh11 := q11.trans hh9
    have c12 : Steps p.tables e below (s₁.setTop (entryFrame m #[.ref x, .ref y] 3)) (T11.setTop (mkF m 33 #[.val (.ref x), .val (.ref y), .val (.ref y)] [.int cd', .int cd])) := c10.trans (st11 _ (Steps.refl _))
    by_cases hcd : cd = cd'
    · subst hcd
      have c13 : Steps p.tables e below (s₁.setTop (entryFrame m #[.ref x, .ref y] 3)) (T11.setTop (mkF m 37 #[.val (.ref x), .val (.ref y), .val (.ref y)] [.ref x])) := c12.trans (by
        refine XS.icmpNo X11.here hexec rfl (hb hbytes d33) rfl (ii_ne_f rfl) ?_
        refine XS.aloadN X11.here hexec rfl (hb hbytes d36) rfl rfl ?_
        exact Steps.refl _)
      obtain ⟨T14, X14, q14, st14⟩ := X11.hget hexec hown (wk W (.fieldLink "java/lang/String" 9 "java/lang/String" "value" "[B")) (hx.mv X11.warmed.alike hh11).2.1 (g := (mkF m 37 #[.val (.ref x), .val (.ref y), .val (.ref y)] [.ref x])) rfl (rest := []) rfl (hb hbytes d37)
      have hh14 := q14.trans hh11
      have c15 : Steps p.tables e below (s₁.setTop (entryFrame m #[.ref x, .ref y] 3)) (T14.setTop (mkF m 41 #[.val (.ref x), .val (.ref y), .val (.ref y)] [.ref y, .ref t])) := (c13.trans (st14 _ (Steps.refl _))).trans (by
        refine XS.aloadN X14.here hexec rfl (hb hbytes d40) rfl rfl ?_
        exact Steps.refl _)
      obtain ⟨T16, X16, q16, st16⟩ := X14.hget hexec hown (wk W (.fieldLink "java/lang/String" 9 "java/lang/String" "value" "[B")) (hy.mv X14.warmed.alike hh14).2.1 (g := (mkF m 41 #[.val (.ref x), .val (.ref y), .val (.ref y)] [.ref y, .ref t])) rfl (rest := [.ref t]) rfl (hb hbytes d41)
      have hh16 := q16.trans hh14
      have c17 : Steps p.tables e below (s₁.setTop (entryFrame m #[.ref x, .ref y] 3)) (T16.setTop (mkF m 44 #[.val (.ref x), .val (.ref y), .val (.ref y)] [.ref t', .ref t])) := c15.trans (st16 _ (Steps.refl _))
      obtain ⟨v18, T18, X18, E18, g18⟩ := X16.callS hexec (LEq.law l t V t' V') hown (wks W (staticW "java/lang/String" 541 LEq.yN)) (wk W LEq.tab) (W := 0) (Nat.le_of_ble_eq_true rfl) (Nat.le_of_ble_eq_true rfl) (Nat.le_refl _) (Nat.le_refl _) (g := (mkF m 44 #[.val (.ref x), .val (.ref y), .val (.ref y)] [.ref t', .ref t])) rfl (by rw [hml]; rfl) c17 (argsL := [.ref t, .ref t']) (rest := []) rfl rfl (by show 2 * 0 + 0 ≤ _; decide) (hb hbytes d44) (⟨rfl, hx.2.2.2.1.mv X16.warmed.alike hh16, hx.2.2.2.2.1.ty, hy.2.2.2.1.mv X16.warmed.alike hh16, hy.2.2.2.2.1.ty⟩)
      obtain ⟨v, rfl, q18, hv⟩ := E18
      have iff := Cod.eqv hx.2.2.2.2.1 hy.2.2.2.2.1 hx.2.2.2.2.2 hy.2.2.2.2.2
      rcases hv with ⟨rfl, he⟩ | ⟨rfl, he⟩
      · have c19 : Steps p.tables e below (s₁.setTop (entryFrame m #[.ref x, .ref y] 3)) (T18.setTop (mkF m 55 #[.val (.ref x), .val (.ref y), .val (.ref y)] [.int 1])) := Steps.trans g18 (by
          refine XS.ifNo X18.here hexec rfl (hb hbytes d47) rfl (i0_eq_f (by decide)) ?_
          refine iconstV X18.here hexec rfl 1 (hb hbytes d50) (by decide) ?_
          refine XS.goto X18.here hexec rfl (pc0 := 51) rfl (hb hbytes d51) (by decide) rfl ?_
          exact Steps.refl _)
        exact ⟨T18, some (.int 1), _, _, _, X18, rfl, rfl, rfl, (fun h => by cases h), ⟨1, rfl, q18.trans hh16, Or.inl ⟨rfl, iff.mp he⟩⟩, fun fs hl => c19.trans (X18.ireturnOut hexec hret rfl (Or.inr (Or.inl rfl)) (hb hbytes d55) hl)⟩
      · have c19 : Steps p.tables e below (s₁.setTop (entryFrame m #[.ref x, .ref y] 3)) (T18.setTop (mkF m 55 #[.val (.ref x), .val (.ref y), .val (.ref y)] [.int 0])) := Steps.trans g18 (by
          refine XS.ifYes X18.here hexec rfl (pc0 := 47) rfl (hb hbytes d47) rfl (i0_eq_t rfl) (by decide) rfl ?_
          refine iconstV X18.here hexec rfl 0 (hb hbytes d54) (by decide) ?_
          exact Steps.refl _)
        exact ⟨T18, some (.int 0), _, _, _, X18, rfl, rfl, rfl, (fun h => by cases h), ⟨0, rfl, q18.trans hh16, Or.inr ⟨rfl, fun q => he (iff.mpr q)⟩⟩, fun fs hl => c19.trans (X18.ireturnOut hexec hret rfl (Or.inr (Or.inl rfl)) (hb hbytes d55) hl)⟩
    · have c13 : Steps p.tables e below (s₁.setTop (entryFrame m #[.ref x, .ref y] 3)) (T11.setTop (mkF m 55 #[.val (.ref x), .val (.ref y), .val (.ref y)] [.int 0])) := c12.trans (by
        refine XS.icmpYes X11.here hexec rfl (pc0 := 33) rfl (hb hbytes d33) rfl (ii_ne_t hcd) (by decide) rfl ?_
        refine iconstV X11.here hexec rfl 0 (hb hbytes d54) (by decide) ?_
        exact Steps.refl _)
      exact ⟨T11, some (.int 0), _, _, _, X11, rfl, rfl, rfl, (fun h => by cases h), ⟨0, rfl, hh11, Or.inr ⟨rfl, Cod.dif hx.2.2.2.2.1 hy.2.2.2.2.1 hcd⟩⟩, fun fs hl => c13.trans (X11.ireturnOut hexec hret rfl (Or.inr (Or.inl rfl)) (hb hbytes d55) hl)⟩
theorem pays {l : Launch} {R : Room} {p : Program} {e : Env} {below : List Frame} {s : State} {sargs : Array Value} {len W : Nat} (x t : Addr) (V : Cell) (cd : Int32) (n : Nat) (f : Nat → Int32) (y t' : Addr) (V' : Cell) (cd' : Int32) (k : Nat) (g : Nat → Int32) (z : Int32) (htab : tab.before sargs s = true) (hfr : 2 ≤ R.frames) (hlo : W + 28 ≤ R.locals) :
    Back l R p e below s sargs yN len W (fun A₁ a₁ => A₁.cells + 0 ≤ R.cells ∧ A₁.slots + 0 ≤ R.slots ∧ P x t V cd n f y t' V' cd' k g z a₁ A₁.U) (fun A₁ _ v₁ B₁ => Says01 (SameT n f k g) v₁ A₁.U B₁.U ∧ B₁.locs = A₁.locs ++ [] ∧ B₁.cells = A₁.cells + 0 ∧ B₁.slots = A₁.slots + 0) :=
  (law l x t V cd n f y t' V' cd' k g z).pays htab hfr (by omega)
end SEq
end StrChars
namespace StrChars.Road
open Jvm Sem ClassFile Op Lib Jvm.Stand Jvm.Free Jvm.Free.XT
open Jvm.Lib.Cold (StaticIs)
/-- the words of String.equals(Object) -/
abbrev wordsEq : List Jvm.Cond := [.code SEq.yN SEq.yB 3 (some .boolean), .initialized ST, .classLink ST 10 ST, .fieldLink ST 38 ST "COMPACT_STRINGS" "Z", .fieldLink ST 15 ST "coder" "B", .fieldLink ST 9 ST "value" "[B", .methodLink ST 541 LEq.yN, .static LEq.yN, .code LEq.yN LEq.yB 3 (some .boolean), .initialized "java/lang/StringLatin1"]
theorem tabEq_of {a : Array Value} {s : State} (h : ∀ w ∈ wordsEq, w.before a s = true) : SEq.tab.before a s = true := by
  have hl : LEq.tab.before a s = true := unparts (wk h (.code LEq.yN LEq.yB 3 (some .boolean))) (wks h (.initialized LEq.yN.cls :: LEq.site))
  have q := consq hl h
  exact unparts (wk q (.code SEq.yN SEq.yB 3 (some .boolean))) (wks q (.initialized SEq.yN.cls :: SEq.site))
theorem movedEq {Z s : State} {a0 args : Array Value} (hZ : Z.Warmed39 s.vm) (hw : ∀ d ∈ wordsEq, d.before a0 Z = true) : ∀ d ∈ wordsEq, d.before args s = true := fun d hd => by
  have t : ∀ d ∈ wordsEq, (d.onTables && d.keepsFace) = true := by decide +kernel
  exact RoadKit.mv hZ (hw d hd) (t d hd)
/-- the road's facts of a String, as the laws ask it -/
theorem txt_of {Z U : State} {a0 : Array Value} {kI : Nat} (wi : (Jvm.Cond.instantiable ST kI).before a0 Z = true) (al : Z.vm.Alike U.vm) {x t : Addr} {kb : ClassId} {cs : List Int32} {cd N2 : Int32} {vs : List Value} (E : RoadKit.Exa Z U.heap x ST) (V : RoadKit.Fld Z U.heap x ST "value" "[B" (.ref t)) (C : RoadKit.Fld Z U.heap x ST "coder" "B" (.int cd)) (K : RoadKit.Arv Z U.heap t kb .byte N2 vs (.int 0)) (hc : CodA cs cd N2 vs) (hb : ∀ c ∈ cs, ¬ c < 0 ∧ ¬ (65535 : Int32) < c) (l2 : cs.length ≤ 4000) :
    ∃ A, Txt x t A cd cs.length (fun j => cs.getD j 0) U := by
  obtain ⟨A, K1, K2, K3, K4, K5, K6⟩ := K
  have hcod := hc.cod (by omega) K3 K5
  obtain ⟨D, fV, fC, hB, F1, F2, g1, g2, -, -⟩ := strObj wi al E V C
  exact ⟨A, ⟨_, hB.2.2.1, D, hB.1, rfl, by cases q : D.vm <;> first | rfl | exact absurd q (hB.2.1.2 _)⟩, Has.of hB F1 g1, Has.of hB F2 g2, ⟨K1.1, State.isArrayOf_alike al K1.2.1, K1.2.2, by rcases hcod with ⟨-, q, -⟩ | ⟨-, q, -⟩ <;> omega⟩, hcod, fun j hj => by
    have e : cs.getD j 0 = cs[j] := by simp [List.getD_eq_getElem?_getD, hj]
    show ¬ cs.getD j 0 < 0 ∧ ¬ 65535 < cs.getD j 0
    rw [e]; exact hb _ (List.getElem_mem _)⟩
theorem same_list (cs ds : List Int32) : SameT cs.length (fun j => cs.getD j 0) ds.length (fun j => ds.getD j 0) ↔ cs = ds := by
  constructor
  · rintro ⟨e, q⟩
    refine List.ext_getElem e fun j h1 h2 => ?_
    have := q j h1
    simpa [List.getD_eq_getElem?_getD, h1, h2] using this
  · rintro rfl
    exact ⟨rfl, fun _ _ => rfl⟩
/-- **equals(Object) OF TWO SUCH STRINGS**: 1 just where the chars are the same -/
theorem eqW {p : Program} {l : Launch} {e : Env} {R : Room} {s : State} {args : Array Value} {below : List Frame} {len W : Nat} {Z : State} {a0 : Array Value} {h : Heap} (hZ : Z.Warmed39 s.vm) (hw : ∀ d ∈ wordsEq, d.before a0 Z = true) {kI : Nat} (wi : (Jvm.Cond.instantiable ST kI).before a0 Z = true)
    {x t : Addr} {kb : ClassId} {cs : List Int32} {cd N2 : Int32} {vs : List Value} (E : RoadKit.Exa Z h x ST) (V : RoadKit.Fld Z h x ST "value" "[B" (.ref t)) (C : RoadKit.Fld Z h x ST "coder" "B" (.int cd)) (K : RoadKit.Arv Z h t kb .byte N2 vs (.int 0)) (hc : CodA cs cd N2 vs) (hb : ∀ c ∈ cs, ¬ c < 0 ∧ ¬ (65535 : Int32) < c) (l2 : cs.length ≤ 4000)
    {y t' : Addr} {kb' : ClassId} {ds : List Int32} {cd' N2' : Int32} {vs' : List Value} (E' : RoadKit.Exa Z h y ST) (V' : RoadKit.Fld Z h y ST "value" "[B" (.ref t')) (C' : RoadKit.Fld Z h y ST "coder" "B" (.int cd')) (K' : RoadKit.Arv Z h t' kb' .byte N2' vs' (.int 0)) (hc' : CodA ds cd' N2' vs') (hb' : ∀ c ∈ ds, ¬ c < 0 ∧ ¬ (65535 : Int32) < c) (l2' : ds.length ≤ 4000)
    {z : Int32} (S : RoadKit.Sta Z h ST "COMPACT_STRINGS" "Z" (.int z)) (hz : ¬ z = 0) (hfr : 2 ≤ R.frames) (hlo : W + 28 ≤ R.locals) :
    Back l R p e below s args (⟨"java/lang/String", "equals", "(Ljava/lang/Object;)Z"⟩ : MethodName) len W (fun P a => a = #[.ref x, .ref y] ∧ P.U.heap = h ∧ P.cells + 0 ≤ R.cells ∧ P.slots + 0 ≤ R.slots)
      (fun P _ v B => ∃ L, (((v = some (.int 1) ∧ cs = ds) ∨ (v = some (.int 0) ∧ ¬ cs = ds)) ∧ L = [] ∧ B.U.heap = h) ∧ B.locs = P.locs ++ L ∧ B.cells = P.cells + 0 ∧ B.slots = P.slots + 0) := by
  intro m meth c P g ig mk a X hg hsize hdg hW hn hp'
  obtain ⟨rfl, rfl, r1, r2⟩ := hp'
  have al : Z.vm.Alike P.U.vm := hZ.alike.trans X.warmed.alike
  obtain ⟨A, hx⟩ := txt_of wi al E V C K hc hb l2
  obtain ⟨A', hy⟩ := txt_of wi al E' V' C' K' hc' hb' l2'
  obtain ⟨v, B, X', ⟨⟨w, hv, hh, hq⟩, hl, hk, hs⟩, st⟩ := SEq.pays x t A cd cs.length (fun j => cs.getD j 0) y t' A' cd' ds.length (fun j => ds.getD j 0) z (tabEq_of (movedEq hZ hw)) hfr hlo m meth c P g ig mk _ X hg hsize hdg hW hn ⟨r1, r2, rfl, hx, hy, sta_is al S, hz⟩
  refine ⟨v, B, X', ⟨[], ⟨?_, rfl, hh⟩, hl, hk, hs⟩, st⟩
  rcases hq with ⟨rfl, q⟩ | ⟨rfl, q⟩
  · exact Or.inl ⟨hv, (same_list cs ds).mp q⟩
  · exact Or.inr ⟨hv, fun e => q ((same_list cs ds).mpr e)⟩
end StrChars.Road
namespace StrChars.Road
open Jvm Sem ClassFile Op Lib Jvm.Stand Jvm.Free Jvm.Free.XT
open Jvm.Lib.Cold (StaticIs)
/-- what backV says of its String, as the contracts of this text ask it: cs's low bytes, coder 0 -/
theorem codOf {cs : List Int32} {n : Nat} (hn : cs.length = n) (hb : ∀ c ∈ cs, ¬ 255 < c) : CodA cs 0 (Int32.ofNat n) ((cs.map lo8).map Value.int) := Or.inl ⟨rfl, by rw [hn], by simp [List.map_map, Function.comp_def], hb⟩
end StrChars.Road
end Jvm.Pilot.@@N@@
namespace Jvm.Pilot.@@N@@
open Jvm Jvm.ClassFile Sem Op Lib Jvm.Free Jvm.Stand Jvm.LawKit Jvm.RoadKit Bundle Jvm.Pilot.@@N@@.Jvm.D
theorem own_j1 {G : Prop} {A : Prop → Prop} (h1 : A G) (h2 : A G → G) : G := h2 h1
theorem own_wS {a0 : Array Value} {Z : State} (hw : ∀ d ∈ tables_1, d.before a0 Z = true) : ∀ a ∈ Bundle.stringAtoms, a.before a0 Z = true := by
  intro a ha
  simp only [Bundle.stringAtoms, List.mem_cons, List.not_mem_nil, or_false] at ha
  rcases ha with rfl | rfl | rfl | rfl | rfl | rfl | rfl
  · exact (hw _ (List.mem_of_getElem? (i := 6) rfl))
  · exact (hw _ (List.mem_of_getElem? (i := 5) rfl))
  · exact (hw _ (List.mem_of_getElem? (i := 19) rfl))
  · exact (hw _ (List.mem_of_getElem? (i := 20) rfl))
  · exact (hw _ (List.mem_of_getElem? (i := 21) rfl))
  · exact (hw _ (List.mem_of_getElem? (i := 22) rfl))
  · exact (hw _ (List.mem_of_getElem? (i := 23) rfl))
def own_EL : List (String × Nat) := [("com/example/cranfield/cranfield/model/Topic", 7), ("com/example/cranfield/cranfield/model/Topic", 22), ("java/lang/String", 7)]
theorem own_EW {a0 : Array Value} {Z : State} (hw : ∀ d ∈ tables_1, d.before a0 Z = true) : EW Z a0 own_EL := (EW.cons (hw _ (List.mem_of_getElem? (i := 33) rfl)) (by first | decide | decide +kernel | simp) (EW.cons (hw _ (List.mem_of_getElem? (i := 41) rfl)) (by first | decide | decide +kernel | simp) (EW.cons (hw _ (List.mem_of_getElem? (i := 18) rfl)) (by first | decide | decide +kernel | simp) EW.nil)))
theorem own_hws {a0 : Array Value} {Z : State} (hw : ∀ d ∈ tables_1, d.before a0 Z = true) : ∀ d ∈ StrChars.Road.words, d.before a0 Z = true := fun d hd => hw d ((by decide +kernel : ∀ d ∈ StrChars.Road.words, d ∈ tables_1) d hd)
theorem own_heq {a0 : Array Value} {Z : State} (hw : ∀ d ∈ tables_1, d.before a0 Z = true) : ∀ d ∈ StrChars.Road.wordsEq, d.before a0 Z = true := fun d hd => hw d ((by decide +kernel : ∀ d ∈ StrChars.Road.wordsEq, d ∈ tables_1) d hd)
theorem own_safe {Z : State} {EL : List (String × Nat)} {vm : Vm} {h : Heap} {x : Addr} (hal : Z.vm.Alike vm) (E : Exa Z h x "java/lang/String") (F : Fld Z h x "java/lang/String" "value" "[B" .null) : Safe Z EL vm h x := fun B => by
  obtain ⟨cell, cf, k, i, f, g1, g2, -, -, -, -, g7⟩ := F
  obtain ⟨cell', k', e1, e2, e3, -, -⟩ := E
  cases g1.symm.trans e1
  obtain ⟨p, -, u, a, -, q, -, G, rfl | rfl⟩ := B
  · cases (show h[q.sa]? = some q.sC from G.ha).symm.trans g1
    obtain ⟨cS, ⟨⟨-, -, -, ⟨c1, k1, i1, f1, -⟩, -, -, -, v1, -⟩, -⟩, -⟩ := G
    obtain ⟨k3, e4, -⟩ := State.fieldFound?_setVm (s := Z) hal g2
    have e5 := (show (Wst Z vm h).fieldFound? _ _ _ = _ from e4).symm.trans f1
    simp only [Option.some.injEq, Prod.mk.injEq] at e5
    rw [e5.2.2.2, v1] at g7
    simp at g7
  · cases (show h[q.sd]? = some q.SA from G.hd).symm.trans g1
    obtain ⟨cS, -, -, f1, -⟩ := G
    have f2 : Z.vm.findClass "[B" = some q.SA.cls := by rw [← hal.findClass]; exact f1
    exact ids_ne f2 e2 (by decide) rfl
def own_Str (Z : State) (h : Heap) (x : Addr) (cs : List Int32) : Prop := ∃ (t : Addr) (kb : ClassId) (cd N : Int32) (vs : List Value), Exa Z h x "java/lang/String" ∧ Fld Z h x "java/lang/String" "value" "[B" (.ref t) ∧ Fld Z h x "java/lang/String" "coder" "B" (.int cd) ∧ Arv Z h t kb .byte N vs (.int 0) ∧ StrChars.Road.CodA cs cd N vs ∧ (∀ c ∈ cs, ¬ c < 0 ∧ ¬ (65535 : Int32) < c) ∧ cs.length ≤ 4000
theorem own_Strx {Z : State} {h h' : Heap} {x : Addr} {cs : List Int32} (F : own_Str Z h x cs) (E : Ext h h') : own_Str Z h' x cs := by
  obtain ⟨t, kb, cd, N, vs, h1, h2, h3, h4, r⟩ := F
  exact ⟨t, kb, cd, N, vs, h1.ext E, h2.ext E, h3.ext E, h4.ext E, r⟩
theorem own_Strk {Z : State} {h h' : Heap} {x : Addr} {cs : List Int32} (F : own_Str Z h x cs) (K : Keep h h' []) : own_Str Z h' x cs := by
  obtain ⟨t, kb, cd, N, vs, h1, h2, h3, h4, r⟩ := F
  exact ⟨t, kb, cd, N, vs, h1.keep K, h2.keep K nin0, h3.keep K nin0, h4.keep K nin0, r⟩
theorem own_Stre {Z : State} {h : Heap} {x : Addr} {cs : List Int32} (F : own_Str Z h x cs) : Exa Z h x "java/lang/String" := by
  obtain ⟨t, kb, cd, N, vs, h1, -⟩ := F
  exact h1
def own_cs (len c0 c1 : Int32) : List Int32 := if len = 0 then [] else if len = 1 then [c0] else [c0, c1]
theorem own_narc {c : Int32} (h : ¬ c < 0 ∧ ¬ (255 : Int32) < c) : nar .char c = c := by
  show c.toUInt32.toUInt16.toUInt32.toInt32 = c
  have a := c_i2c c
  have r := rng32 c
  rw [Int32.lt_iff_toInt_lt, Int32.lt_iff_toInt_lt] at h
  have l0 : (0 : Int32).toInt = 0 := rfl
  have l1 : (255 : Int32).toInt = 255 := rfl
  apply Int32.toInt_inj.mp
  omega
theorem own_to16 {c : Int32} (h : ¬ c < 0 ∧ ¬ (255 : Int32) < c) : ¬ c < 0 ∧ ¬ (65535 : Int32) < c := by
  rw [Int32.lt_iff_toInt_lt, Int32.lt_iff_toInt_lt] at *
  have l1 : (255 : Int32).toInt = 255 := rfl
  have l2 : (65535 : Int32).toInt = 65535 := rfl
  omega
theorem own_Stro {Z : State} {a0 : Array Value} {h h' : Heap} {x b : Addr} {cs : List Int32} {C : String} {n : Nat} (F : own_Str Z h x cs) (K : Keep h h' [b]) (E : Exa Z h b C) (wi : (Jvm.Cond.instantiable C n).before a0 Z = true) (h1 : "java/lang/String" ≠ C) : own_Str Z h' x cs := by
  obtain ⟨t, kb, cd, N, vs, g1, g2, g3, g4, r⟩ := F
  have n1 : x ≠ b := ne_exa g1 E h1
  have n2 : t ≠ b := Ne.symm (E.neArv g4 wi)
  exact ⟨t, kb, cd, N, vs, g1.keep K, g2.keep K (ninS n1 nin0), g3.keep K (ninS n1 nin0), g4.keep K (ninS n2 nin0), r⟩
theorem own_ns1 {Z : State} {a0 : Array Value} {C K : String} {n : Nat} (w1 : (Jvm.Cond.superclass C "java/lang/Object").before a0 Z = true) (w3 : (Jvm.Cond.noSuperclass "java/lang/Object").before a0 Z = true) (wk : (Jvm.Cond.instantiable K n).before a0 Z = true)
    (n1 : "java/lang/Object" ≠ K) (n3 : C ≠ K) : ∃ c t, Z.vm.findClass C = some c ∧ Z.vm.findClass K = some t ∧ Z.vm.assignable c t = false := by
  obtain ⟨t, k', g1, g2, g3, g4, -⟩ := Cond.instantiable_spec wk
  have hroot : NS Z "java/lang/Object" K := by
    obtain ⟨c, k, h1, h2, h3, -, -⟩ := Cond.noSuperclass_spec w3
    have ne := ids_ne h1 g1 n1
    refine ⟨c, t, h1, g1, fun fuel => ?_⟩
    cases fuel with
    | zero => rfl
    | succ f => simp [Vm.isSubclassAux, ne, h2, h3]
  obtain ⟨c, t', h0, g0, nn⟩ := NS.step w1 hroot n3
  cases g1.symm.trans g0
  obtain ⟨p, k, kp, -, h2, -, -, h5, -, -⟩ := Cond.superclass_spec h0 w1
  have ne := ids_ne h0 g1 n3
  have g7 : k'.isInterface = false := by
    simp only [Bool.or_eq_false_iff] at g4
    exact g4.1
  refine ⟨c, t, h0, g1, ?_⟩
  show Z.vm.assignableAux (255 + 1) c t = false
  simp [Vm.assignableAux, ne, h2, g2, h5, g3, g7, Vm.isSubclass, nn]
theorem own_3 (x : Int32) : let k := (x &&& (3 : Int32)) % (3 : Int32); k = 0 ∨ k = 1 ∨ k = 2 := by
  intro k
  have h0 := c_and x 3 (by decide)
  have h1 := (c_irem (x &&& (3 : Int32)) 3 3 (by decide)).1 h0.1
  have h2 : k.toInt = (x &&& (3 : Int32)).toInt % 3 := h1
  have h3 : k.toInt = 0 ∨ k.toInt = 1 ∨ k.toInt = 2 := by omega
  rcases h3 with h | h | h
  · exact Or.inl (Int32.toInt_inj.mp h)
  · exact Or.inr (Or.inl (Int32.toInt_inj.mp h))
  · exact Or.inr (Or.inr (Int32.toInt_inj.mp h))
theorem own_4 (x : Int32) : let k := x &&& (3 : Int32); k = 0 ∨ k = 1 ∨ k = 2 ∨ k = 3 := by
  intro k
  have h0 := c_and x 3 (by decide)
  have l3 : (3 : Int32).toInt = 3 := rfl
  rw [l3] at h0
  have h3 : k.toInt = 0 ∨ k.toInt = 1 ∨ k.toInt = 2 ∨ k.toInt = 3 := by
    have : k.toInt = (x &&& (3 : Int32)).toInt := rfl
    omega
  rcases h3 with h | h | h | h
  · exact Or.inl (Int32.toInt_inj.mp h)
  · exact Or.inr (Or.inl (Int32.toInt_inj.mp h))
  · exact Or.inr (Or.inr (Or.inl (Int32.toInt_inj.mp h)))
  · exact Or.inr (Or.inr (Or.inr (Int32.toInt_inj.mp h)))
def own_b8 (c : Int32) : Prop := ¬ c < 0 ∧ ¬ (255 : Int32) < c
theorem own_and8 (x : Int32) : own_b8 (x &&& (255 : Int32)) := by
  have h0 := c_and x 255 (by decide)
  have l1 : (255 : Int32).toInt = 255 := rfl
  have l0 : (0 : Int32).toInt = 0 := rfl
  rw [own_b8, Int32.lt_iff_toInt_lt, Int32.lt_iff_toInt_lt]
  omega
theorem own_zero8 : own_b8 0 := by rw [own_b8]; decide
theorem own_c8 {x : Int32} (h : own_b8 x) : own_b8 (x.toUInt32.toUInt16.toUInt32.toInt32) := by
  have e : x.toUInt32.toUInt16.toUInt32.toInt32 = x := own_narc h
  rw [e]; exact h
theorem own_nat {x : Int32} (h : own_b8 x) : x.toBitVec.toNat < 256 := by
  rw [own_b8, Int32.lt_iff_toInt_lt, Int32.lt_iff_toInt_lt] at h
  have l1 : (255 : Int32).toInt = 255 := rfl
  have l0 : (0 : Int32).toInt = 0 := rfl
  have e : x.toInt = Int.bmod x.toBitVec.toNat (2 ^ 32) := BitVec.toInt_eq_toNat_bmod x.toBitVec
  have e2 := Int.bmod_emod (x := (x.toBitVec.toNat : Int)) (m := 2 ^ 32)
  have lt := x.toBitVec.isLt
  rw [← e] at e2
  omega
theorem own_xor8 {a b : Int32} (ha : own_b8 a) (hb : own_b8 b) : own_b8 (a ^^^ b) := by
  have n1 := own_nat ha
  have n2 := own_nat hb
  have n3 : (a ^^^ b).toBitVec.toNat < 2 ^ 8 := by
    rw [Int32.toBitVec_xor, BitVec.toNat_xor]
    exact Nat.xor_lt_two_pow n1 n2
  have e : (a ^^^ b).toInt = Int.bmod (a ^^^ b).toBitVec.toNat (2 ^ 32) := BitVec.toInt_eq_toNat_bmod (a ^^^ b).toBitVec
  have e2 : Int.bmod (a ^^^ b).toBitVec.toNat (2 ^ 32) = (a ^^^ b).toBitVec.toNat := Int.bmod_eq_of_le (by omega) (by omega)
  have l1 : (255 : Int32).toInt = 255 := rfl
  have l0 : (0 : Int32).toInt = 0 := rfl
  rw [own_b8, Int32.lt_iff_toInt_lt, Int32.lt_iff_toInt_lt]
  omega
def own_l3 (l : Int32) : Prop := l = 0 ∨ l = 1 ∨ l = 2
theorem own_sm1 {l m a b c d : Int32} (hl : own_l3 l) (hm : own_l3 m) (n : ¬ l = m) : ¬ own_cs l a b = own_cs m c d := by
  rcases hl with h | h | h <;> subst h <;> rcases hm with h | h | h <;> subst h <;> simp [own_cs] at n ⊢
theorem own_sm2 {l m a b c d : Int32} (hl : own_l3 l) (e : l = m) (q : l < 1) : own_cs l a b = own_cs m c d := by
  subst e
  rcases hl with h | h | h <;> subst h
  · rfl
  · exact absurd q (by decide)
  · exact absurd q (by decide)
theorem own_sm3 {l m a b c d : Int32} (hl : own_l3 l) (e : l = m) (q : ¬ l < 1) (n : ¬ a = c) : ¬ own_cs l a b = own_cs m c d := by
  subst e
  rcases hl with h | h | h <;> subst h
  · exact absurd (by decide) q
  · simp [own_cs, n]
  · simp [own_cs, n]
theorem own_sm4 {l m a b c d : Int32} (hl : own_l3 l) (e : l = m) (q : ¬ l < 1) (r : l < 2) (n : a = c) : own_cs l a b = own_cs m c d := by
  subst e
  rcases hl with h | h | h <;> subst h
  · exact absurd (by decide) q
  · simp [own_cs, n]
  · exact absurd r (by decide)
theorem own_sm5 {l m a b c d : Int32} (hl : own_l3 l) (e : l = m) (r : ¬ l < 2) (n : ¬ b = d) : ¬ own_cs l a b = own_cs m c d := by
  subst e
  rcases hl with h | h | h <;> subst h
  · exact absurd (by decide) r
  · exact absurd (by decide) r
  · simp [own_cs, n]
theorem own_sm6 {l m a b c d : Int32} (e : l = m) (n : a = c) (n' : b = d) : own_cs l a b = own_cs m c d := by rw [e, n, n']
def own_teq (c1 d1 c2 d2 : List Int32) : Int32 := if c1 = c2 then (if d1 = d2 then 1 else 0) else 0
theorem own_teqs (c d : List Int32) : own_teq c d c d = 1 := by rw [own_teq, if_pos rfl, if_pos rfl]
theorem own_teqc (c1 d1 c2 d2 : List Int32) : own_teq c2 d2 c1 d1 = own_teq c1 d1 c2 d2 := by
  rw [own_teq, own_teq]
  by_cases h1 : c1 = c2
  · rw [if_pos h1, if_pos h1.symm]
    by_cases h2 : d1 = d2
    · rw [if_pos h2, if_pos h2.symm]
    · rw [if_neg h2, if_neg (fun q => h2 q.symm)]
  · rw [if_neg h1, if_neg (fun q => h1 q.symm)]
theorem d3_0 : decode jdk_42_method_149_code 0 = .ok (.aload_n 0, 1) := by decide +kernel
theorem d3_1 : decode jdk_42_method_149_code 1 = .ok (.invokespecial 1, 3) := by decide +kernel
theorem d3_4 : decode jdk_42_method_149_code 4 = .ok (.iload_n 3, 1) := by decide +kernel
theorem d3_5 : decode jdk_42_method_149_code 5 = .ok (.ifCond .ne 22, 3) := by decide +kernel
theorem d3_8 : decode jdk_42_method_149_code 8 = .ok (.aload_n 0, 1) := by decide +kernel
theorem d3_9 : decode jdk_42_method_149_code 9 = .ok (.ldc 7, 2) := by decide +kernel
theorem d3_11 : decode jdk_42_method_149_code 11 = .ok (.getfield 9, 3) := by decide +kernel
theorem d3_14 : decode jdk_42_method_149_code 14 = .ok (.putfield 9, 3) := by decide +kernel
theorem d3_17 : decode jdk_42_method_149_code 17 = .ok (.aload_n 0, 1) := by decide +kernel
theorem d3_18 : decode jdk_42_method_149_code 18 = .ok (.ldc 7, 2) := by decide +kernel
theorem d3_20 : decode jdk_42_method_149_code 20 = .ok (.getfield 15, 3) := by decide +kernel
theorem d3_23 : decode jdk_42_method_149_code 23 = .ok (.putfield 15, 3) := by decide +kernel
theorem d3_26 : decode jdk_42_method_149_code 26 = .ok (.return_, 1) := by decide +kernel
theorem pn_0 : plainName "java/lang/String" = true := by first | (simp [plainName, overriddenIn]; done) | decide +kernel
theorem ef_rmS4 (m : MethodId) (x0 : Addr) (x1 : Addr) (x2 : Int32) (x3 : Int32) : entryFrame m #[(.ref x0), (.ref x1), (.int x3), (.int x3), .null] 6 = mkF m 0 #[.val (.ref x0), .val (.ref x1), .val (.int x3), .val (.int x3), .val .null, .unset] [] := by first | (simp [entryFrame, mkF, argsToLocals, Value.category]; done) | rfl
def QrmS4 (Z : State) (a1 : Addr) (a2 : Addr) (h0 : Heap) (n0 : Nat) (v : Option Value) (h : Heap) (L : List Loc) : Prop := v = none ∧ Fr n0 L ∧ Keep h0 h [a1] ∧ ∃ (t : Addr) (kb : ClassId), Exa Z h a1 "java/lang/String" ∧ Fld Z h a1 "java/lang/String" "value" "[B" (.ref t) ∧ Fld Z h a1 "java/lang/String" "coder" "B" (.int (0 : Int32)) ∧ Arv Z h t kb .byte (0 : Int32) [] (.int (0 : Int32))
set_option maxRecDepth 65536 in
set_option maxHeartbeats 40000000 in
theorem rmS4 (l : Launch) (Z : State) (a0 : Array Value) (hw : ∀ d ∈ tables_1, d.before a0 Z = true) (ws : List Jvm.Cond) (a1 : Addr) (a2 : Addr) (h0 : Heap) (n0 : Nat) (Z0 : n0 ≤ h0.size) (E_o : Exa Z h0 a1 "java/lang/String") (F_v : Fld Z h0 a1 "java/lang/String" "value" "[B" .null) (F_c : Fld Z h0 a1 "java/lang/String" "coder" "B" (.int (0 : Int32))) (g_a1 : n0 ≤ a1) :
    MetFree l (⟨"java/lang/String", "<init>", "([CIILjava/lang/Void;)V"⟩ : MethodName) (head1 (Jvm.Cond.code (⟨"java/lang/String", "<init>", "([CIILjava/lang/Void;)V"⟩ : MethodName) jdk_42_method_149_code 6 none :: ws) ({ frames := 1, cells := 4, slots := 8, locals := 12 } : Room)) (fun a U => a = #[(.ref a1), (.ref a2), (.int (0 : Int32)), (.int (0 : Int32)), .null] ∧ Z.Warmed39 U.vm ∧ U.heap = h0 ∧ CHv Z own_EL U.vm h0) (fun _ _ _ _ _ => True) (fun _ U o U' => ∃ v L, o = .returned v ∧ QrmS4 Z a1 a2 h0 n0 v U'.heap L ∧ CHr Z own_EL U.vm U.heap U'.vm U'.heap ∧ ReturnedEndW U o U' L ({ frames := 1, cells := 4, slots := 8, locals := 12 } : Room).cells ({ frames := 1, cells := 4, slots := 8, locals := 12 } : Room).slots) := by
  refine MetFree.of_bodySF (plainFor_of_name pn_0) hisR ?_
  intro p e s m args below meth c s₁ Bd hml0 hP hK
  obtain ⟨rfl, hZ, hh, hH⟩ := hP
  have hx := Bd.exec
  have hby := Bd.bytes
  have hml : c.maxLocals = 6 := hml0
  have hown : s.vm.findClass "java/lang/String" = some m.cls := findClass_of_methodNamed Bd.named
  have hnm := (name_of_methodNamed Bd.named Bd.method).1
  have X0 : Stand p l e ({ frames := 1, cells := 4, slots := 8, locals := 12 } : Room) s m #[(.ref a1), (.ref a2), (.int (0 : Int32)), (.int (0 : Int32)), .null] below meth c s₁ [] 0 0 := Stand.of_body Bd
  have e0 : s₁.heap = h0 := by rw [← hh, Bd.state]; rfl
  have N0 := Fr.nil n0
  have pre0 : ∀ t_, Steps p.tables e below (s₁.setTop (mkF m 0 #[.val (.ref a1), .val (.ref a2), .val (.int (0 : Int32)), .val (.int (0 : Int32)), .val .null, .unset] [])) t_ → Steps p.tables e below (s₁.setTop (entryFrame m #[(.ref a1), (.ref a2), (.int (0 : Int32)), (.int (0 : Int32)), .null] 6)) t_ := fun t_ k_ => castTop (ef_rmS4 m a1 a2 ((0 : Int32)) ((0 : Int32))) k_
  have sf0 := own_safe (EL := own_EL) (vm := s.vm) hZ.alike E_o F_v
  have lt0 := E_o.lt
  obtain ⟨T101, X101, e101, st101⟩ := initO X0 hx hZ hown (hw _ (List.mem_of_getElem? (i := 15) rfl)) (hw _ (List.mem_of_getElem? (i := 16) rfl)) (hw _ (List.mem_of_getElem? (i := 17) rfl)) e0 (g := (mkF m 1 #[.val (.ref a1), .val (.ref a2), .val (.int (0 : Int32)), .val (.int (0 : Int32)), .val .null, .unset] [(.ref a1)])) rfl (by rw [hml]; rfl) rfl (hb hby d3_1) (by decide) (W := 0) (by show 2 * 0 + _ ≤ _; exact Nat.le_of_eq rfl) (by decide)
  obtain ⟨lit, T102, h102, k1_102, tb, kb, X102, e102, Ext102, hS102, hk102, hZ102, hown102, E_lit, C_lit, V_lit, A_lit, -, -, hC102, -, hSf_lit, st102⟩ := Jvm.RoadKit.ldcCH (s := s) (vm0 := s.vm) X101 hx hZ hown (hw _ (List.mem_of_getElem? (i := 18) rfl)) (own_wS hw) e101 ((State.WarmedH.refl s).since 0) (Nat.zero_le _) (own_EW hw) (List.mem_of_getElem? (i := 2) rfl) (CHr.refl hH).1 (vs := []) (z := (0 : Int32)) (by first | exact ⟨by simp, by simp⟩ | decide | decide +kernel) (by decide) (by decide) (g := (mkF m 9 #[.val (.ref a1), .val (.ref a2), .val (.int (0 : Int32)), .val (.int (0 : Int32)), .val .null, .unset] [(.ref a1)])) rfl (hb hby d3_9) (n := 0) (by first | decide | decide +kernel | simp) (by decide) (by decide) (by decide)
  have E_103 := E_o.ext Ext102
  have Fv_104 := F_v.ext Ext102
  have Fc_105 := F_c.ext Ext102
  have K_106 := (Keep.refl h0 [a1]).ext Ext102
  have Z107 : n0 ≤ h102.size := Nat.le_trans Z0 (Ext102.1)
  have ch108 := (CHr.refl hH).trans hC102
  have sf1 := hC102.safe lt0 sf0
  have nel := hSf_lit a1 sf1
  obtain ⟨T109, X109, e109, st109⟩ := getF X102 hx hZ102 hown102 (host := "") (Or.inl (hw _ (List.mem_of_getElem? (i := 24) rfl))) Via.refl e102 V_lit (g := (mkF m 11 #[.val (.ref a1), .val (.ref a2), .val (.int (0 : Int32)), .val (.int (0 : Int32)), .val .null, .unset] [(.ref lit), (.ref a1)])) rfl rfl (hb hby d3_11)
  obtain ⟨T110, h110, X110, e110, W110, st110⟩ := putF X109 hx hZ102 hown102 (host := "") (Or.inl (hw _ (List.mem_of_getElem? (i := 24) rfl))) Via.refl e109 Fv_104 E_103 (Or.inr ⟨(hw _ (List.mem_of_getElem? (i := 20) rfl)), rfl, hnm⟩) (hw _ (List.mem_of_getElem? (i := 5) rfl)) (ty := (.array .byte)) (by decide) rfl rfl (g := (mkF m 14 #[.val (.ref a1), .val (.ref a2), .val (.int (0 : Int32)), .val (.int (0 : Int32)), .val .null, .unset] [(.ref tb), (.ref a1)])) rfl rfl (hb hby d3_14)
  have Fc_111 := Fc_105.other W110 (Or.inr (slot_ne (Or.inr (hw _ (List.mem_of_getElem? (i := 21) rfl))) (Or.inr (hw _ (List.mem_of_getElem? (i := 20) rfl))) (by decide) (t := .byte) (t' := (.array .byte)) (by decide) (by decide)))
  have E_112 := E_103.wr W110
  have K_113 := K_106.wr W110 (Or.inl (List.mem_of_getElem? (i := 0) rfl))
  have At_116 := A_lit.other W110 nel.2.symm
  have Fv_117 := Fv_104.same W110
  have N110 := Fr.snoc X110 N0 g_a1
  have Z118 : n0 ≤ h110.size := Nat.le_trans Z107 ((Keep.of_wr W110).1)
  have hk119 := Nat.le_trans hk102 ((Keep.of_wr W110).1)
  have sf2 := Safe.wr W110 sf1 ch108.1 sf1
  have lt1 := E_112.lt
  have ch120 := ch108.trans (CHr.wr W110 sf1 ch108.1)
  obtain ⟨lit2, T121, h121, k1_121, tb2, kb2, X121, e121, Ext121, hS121, hk121, hZ121, hown121, E_lit2, C_lit2, V_lit2, A_lit2, -, -, hC121, -, hSf_lit2, st121⟩ := Jvm.RoadKit.ldcCH (s := s) (vm0 := T102.vm) X110 hx hZ102 hown102 (hw _ (List.mem_of_getElem? (i := 18) rfl)) (own_wS hw) e110 hS102 hk119 (own_EW hw) (List.mem_of_getElem? (i := 2) rfl) ch120.1 (vs := []) (z := (0 : Int32)) (by first | exact ⟨by simp, by simp⟩ | decide | decide +kernel) (by decide) (by decide) (g := (mkF m 18 #[.val (.ref a1), .val (.ref a2), .val (.int (0 : Int32)), .val (.int (0 : Int32)), .val .null, .unset] [(.ref a1)])) rfl (hb hby d3_18) (n := 0) (by first | decide | decide +kernel | simp) (by decide) (by decide) (by decide)
  have E_122 := E_112.ext Ext121
  have Fv_123 := Fv_117.ext Ext121
  have Fc_124 := Fc_111.ext Ext121
  have K_125 := K_113.ext Ext121
  have At_128 := At_116.ext Ext121
  have Z129 : n0 ≤ h121.size := Nat.le_trans Z118 (Ext121.1)
  have ch130 := ch120.trans hC121
  have sf3 := hC121.safe lt1 sf2
  obtain ⟨T131, X131, e131, st131⟩ := getF X121 hx hZ121 hown121 (host := "") (Or.inl (hw _ (List.mem_of_getElem? (i := 25) rfl))) Via.refl e121 C_lit2 (g := (mkF m 20 #[.val (.ref a1), .val (.ref a2), .val (.int (0 : Int32)), .val (.int (0 : Int32)), .val .null, .unset] [(.ref lit2), (.ref a1)])) rfl rfl (hb hby d3_20)
  obtain ⟨T132, h132, X132, e132, W132, st132⟩ := putFN X131 hx hZ121 hown121 (hw _ (List.mem_of_getElem? (i := 25) rfl)) Via.refl e131 Fc_124 E_122 (Or.inr ⟨(hw _ (List.mem_of_getElem? (i := 21) rfl)), rfl, hnm⟩) (hw _ (List.mem_of_getElem? (i := 5) rfl)) (ty := .byte) (v' := (.int (nar .byte (0 : Int32)))) (by decide) rfl (fits_nar_byte _) (g := (mkF m 23 #[.val (.ref a1), .val (.ref a2), .val (.int (0 : Int32)), .val (.int (0 : Int32)), .val .null, .unset] [(.int (0 : Int32)), (.ref a1)])) rfl rfl (hb hby d3_23)
  have Fv_133 := Fv_123.other W132 (Or.inr (slot_ne (Or.inr (hw _ (List.mem_of_getElem? (i := 20) rfl))) (Or.inr (hw _ (List.mem_of_getElem? (i := 21) rfl))) (by decide) (t := (.array .byte)) (t' := .byte) (by decide) (by decide)))
  have E_134 := E_122.wr W132
  have K_135 := K_125.wr W132 (Or.inl (List.mem_of_getElem? (i := 0) rfl))
  have At_138 := At_128.other W132 nel.2.symm
  have Fc_139 := Fc_124.same W132
  have N132 := Fr.snoc X132 N110 g_a1
  have Z140 : n0 ≤ h132.size := Nat.le_trans Z129 ((Keep.of_wr W132).1)
  have hk141 := Nat.le_trans hk121 ((Keep.of_wr W132).1)
  have ch142 := ch130.trans (CHr.wr W132 sf3 ch130.1)
  have pre143 : ∀ t_, Steps p.tables e below (T132.setTop (mkF m 26 #[.val (.ref a1), .val (.ref a2), .val (.int (0 : Int32)), .val (.int (0 : Int32)), .val .null, .unset] [])) t_ → Steps p.tables e below (s₁.setTop (entryFrame m #[(.ref a1), (.ref a2), (.int (0 : Int32)), (.int (0 : Int32)), .null] 6)) t_ := fun t_ k_ => pre0 _ (by
    show Steps p.tables e below (s₁.setTop (mkF m 0 #[.val (.ref a1), .val (.ref a2), .val (.int (0 : Int32)), .val (.int (0 : Int32)), .val .null, .unset] [])) _
    refine XS.aloadN X0.here hx rfl (hb hby d3_0) rfl rfl ?_
    show Steps p.tables e below (s₁.setTop (mkF m 1 #[.val (.ref a1), .val (.ref a2), .val (.int (0 : Int32)), .val (.int (0 : Int32)), .val .null, .unset] [(.ref a1)])) _
    refine st101 _ ?_
    show Steps p.tables e below (T101.setTop (mkF m 4 #[.val (.ref a1), .val (.ref a2), .val (.int (0 : Int32)), .val (.int (0 : Int32)), .val .null, .unset] [])) _
    refine XS.iloadN X101.here hx rfl (hb hby d3_4) rfl ?_
    show Steps p.tables e below (T101.setTop (mkF m 5 #[.val (.ref a1), .val (.ref a2), .val (.int (0 : Int32)), .val (.int (0 : Int32)), .val .null, .unset] [(.int (0 : Int32))])) _
    refine XS.ifNo X101.here hx rfl (hb hby d3_5) rfl ((if0 _ _).trans (teq (rfl : (0 : Int32) = 0)).2) ?_
    show Steps p.tables e below (T101.setTop (mkF m 8 #[.val (.ref a1), .val (.ref a2), .val (.int (0 : Int32)), .val (.int (0 : Int32)), .val .null, .unset] [])) _
    refine XS.aloadN X101.here hx rfl (hb hby d3_8) rfl rfl ?_
    show Steps p.tables e below (T101.setTop (mkF m 9 #[.val (.ref a1), .val (.ref a2), .val (.int (0 : Int32)), .val (.int (0 : Int32)), .val .null, .unset] [(.ref a1)])) _
    refine st102 _ ?_
    show Steps p.tables e below (T102.setTop (mkF m 11 #[.val (.ref a1), .val (.ref a2), .val (.int (0 : Int32)), .val (.int (0 : Int32)), .val .null, .unset] [(.ref lit), (.ref a1)])) _
    refine st109 _ ?_
    show Steps p.tables e below (T109.setTop (mkF m 14 #[.val (.ref a1), .val (.ref a2), .val (.int (0 : Int32)), .val (.int (0 : Int32)), .val .null, .unset] [(.ref tb), (.ref a1)])) _
    refine st110 _ ?_
    show Steps p.tables e below (T110.setTop (mkF m 17 #[.val (.ref a1), .val (.ref a2), .val (.int (0 : Int32)), .val (.int (0 : Int32)), .val .null, .unset] [])) _
    refine XS.aloadN X110.here hx rfl (hb hby d3_17) rfl rfl ?_
    show Steps p.tables e below (T110.setTop (mkF m 18 #[.val (.ref a1), .val (.ref a2), .val (.int (0 : Int32)), .val (.int (0 : Int32)), .val .null, .unset] [(.ref a1)])) _
    refine st121 _ ?_
    show Steps p.tables e below (T121.setTop (mkF m 20 #[.val (.ref a1), .val (.ref a2), .val (.int (0 : Int32)), .val (.int (0 : Int32)), .val .null, .unset] [(.ref lit2), (.ref a1)])) _
    refine st131 _ ?_
    show Steps p.tables e below (T131.setTop (mkF m 23 #[.val (.ref a1), .val (.ref a2), .val (.int (0 : Int32)), .val (.int (0 : Int32)), .val .null, .unset] [(.int (0 : Int32)), (.ref a1)])) _
    refine st132 _ ?_
    exact k_)
  obtain ⟨fs, hr, hrun, hended, hWr, hW1, hW2, hsame⟩ := Jvm.Stand.leaveW (s := s) X132 hS121 (by rw [e132]; exact hk141) (v := none) (fun _ => rfl)
  refine ⟨_, _, pre143 _ ?_, hrun, hended, _, _, rfl, ?_, (by show CHr Z own_EL s.vm s.heap T132.vm T132.heap; rw [hh, e132]; exact ch142.trans (CHv.at (s := s) (vm0 := T121.vm) X132 hZ121 (own_EW hw) ch142.1)), hWr, hW1, hW2, hsame.mono (by decide) (by decide)⟩
  · show Steps p.tables e below (T132.setTop (mkF m 26 #[.val (.ref a1), .val (.ref a2), .val (.int (0 : Int32)), .val (.int (0 : Int32)), .val .null, .unset] [])) _
    exact X132.returnOut hx Bd.returns (hb hby d3_26) hr
  · show QrmS4 Z a1 a2 h0 n0 _ T132.heap _
    rw [e132]
    exact ⟨rfl, N132, K_135, tb, kb, E_134, Fv_133, Fc_139, At_138⟩
theorem pd_0 : parseMethodDescriptor "([CIILjava/lang/Void;)V" = some ⟨[(.array .char), .int, .int, (.object "java/lang/Void")], none⟩ := by decide +kernel
theorem d2_0 : decode jdk_42_method_3_code 0 = .ok (.aload_n 0, 1) := by decide +kernel
theorem d2_1 : decode jdk_42_method_3_code 1 = .ok (.aload_n 1, 1) := by decide +kernel
theorem d2_2 : decode jdk_42_method_3_code 2 = .ok (.iconst 0, 1) := by decide +kernel
theorem d2_3 : decode jdk_42_method_3_code 3 = .ok (.aload_n 1, 1) := by decide +kernel
theorem d2_4 : decode jdk_42_method_3_code 4 = .ok (.arraylength, 1) := by decide +kernel
theorem d2_5 : decode jdk_42_method_3_code 5 = .ok (.aconst_null, 1) := by decide +kernel
theorem d2_6 : decode jdk_42_method_3_code 6 = .ok (.invokespecial 27, 3) := by decide +kernel
theorem d2_9 : decode jdk_42_method_3_code 9 = .ok (.return_, 1) := by decide +kernel
theorem ef_rmS1 (m : MethodId) (x0 : Addr) (x1 : Addr) : entryFrame m #[(.ref x0), (.ref x1)] 2 = mkF m 0 #[.val (.ref x0), .val (.ref x1)] [] := by first | (simp [entryFrame, mkF, argsToLocals, Value.category]; done) | rfl
def QrmS1 (Z : State) (a1 : Addr) (a2 : Addr) (kc : ClassId) (h0 : Heap) (n0 : Nat) (v : Option Value) (h : Heap) (L : List Loc) : Prop := v = none ∧ Fr n0 L ∧ Keep h0 h [a1] ∧ ∃ (t : Addr) (kb : ClassId), Exa Z h a1 "java/lang/String" ∧ Fld Z h a1 "java/lang/String" "value" "[B" (.ref t) ∧ Fld Z h a1 "java/lang/String" "coder" "B" (.int (0 : Int32)) ∧ Arv Z h t kb .byte (0 : Int32) [] (.int (0 : Int32))
set_option maxRecDepth 65536 in
set_option maxHeartbeats 40000000 in
theorem rmS1 (l : Launch) (Z : State) (a0 : Array Value) (hw : ∀ d ∈ tables_1, d.before a0 Z = true) (ws : List Jvm.Cond) (a1 : Addr) (a2 : Addr) (kc : ClassId) (h0 : Heap) (n0 : Nat) (Z0 : n0 ≤ h0.size) (E_o : Exa Z h0 a1 "java/lang/String") (F_v : Fld Z h0 a1 "java/lang/String" "value" "[B" .null) (F_c : Fld Z h0 a1 "java/lang/String" "coder" "B" (.int (0 : Int32))) (g_a1 : n0 ≤ a1) (V : Arv Z h0 a2 kc .char (0 : Int32) [] (.int (0 : Int32))) :
    MetFree l (⟨"java/lang/String", "<init>", "([C)V"⟩ : MethodName) (head1 (Jvm.Cond.code (⟨"java/lang/String", "<init>", "([C)V"⟩ : MethodName) jdk_42_method_3_code 2 none :: ws) ({ frames := 2, cells := 4, slots := 8, locals := 29 } : Room)) (fun a U => a = #[(.ref a1), (.ref a2)] ∧ Z.Warmed39 U.vm ∧ U.heap = h0 ∧ CHv Z own_EL U.vm h0) (fun _ _ _ _ _ => True) (fun _ U o U' => ∃ v L, o = .returned v ∧ QrmS1 Z a1 a2 kc h0 n0 v U'.heap L ∧ CHr Z own_EL U.vm U.heap U'.vm U'.heap ∧ ReturnedEndW U o U' L ({ frames := 2, cells := 4, slots := 8, locals := 29 } : Room).cells ({ frames := 2, cells := 4, slots := 8, locals := 29 } : Room).slots) := by
  refine MetFree.of_bodySF (plainFor_of_name pn_0) hisR ?_
  intro p e s m args below meth c s₁ Bd hml0 hP hK
  obtain ⟨rfl, hZ, hh, hH⟩ := hP
  have hx := Bd.exec
  have hby := Bd.bytes
  have hml : c.maxLocals = 2 := hml0
  have hown : s.vm.findClass "java/lang/String" = some m.cls := findClass_of_methodNamed Bd.named
  have hnm := (name_of_methodNamed Bd.named Bd.method).1
  have X0 : Stand p l e ({ frames := 2, cells := 4, slots := 8, locals := 29 } : Room) s m #[(.ref a1), (.ref a2)] below meth c s₁ [] 0 0 := Stand.of_body Bd
  have e0 : s₁.heap = h0 := by rw [← hh, Bd.state]; rfl
  have N0 := Fr.nil n0
  have pre0 : ∀ t_, Steps p.tables e below (s₁.setTop (mkF m 0 #[.val (.ref a1), .val (.ref a2)] [])) t_ → Steps p.tables e below (s₁.setTop (entryFrame m #[(.ref a1), (.ref a2)] 2)) t_ := fun t_ k_ => castTop (ef_rmS1 m a1 a2) k_
  obtain ⟨cl, Ar, -, Sz, Ng, -, -⟩ := V
  obtain ⟨_, _, ⟨T101, L101, k101, n101⟩, -, X101, hS101, hle101, ⟨Lc101, hQ101, l101, y101, z101, hC101⟩, st101⟩ := Jvm.Stand.specialBackS (s := (s.setVm s.vm)) X0 hx (y := (⟨"java/lang/String", "<init>", "([CIILjava/lang/Void;)V"⟩ : MethodName)) rfl hown (mvT hZ (hw _ (List.mem_of_getElem? (i := 11) rfl))) (mvT hZ (hw _ (List.mem_of_getElem? (i := 12) rfl))) (mvT hZ (hw _ (List.mem_of_getElem? (i := 14) rfl))) (by decide) (backOfSH (s := s) (vm0 := s.vm) (W := 0) (rmS4 l Z a0 hw [] a1 a2 h0 n0 Z0 E_o F_v F_c g_a1) hZ (hw _ (List.mem_of_getElem? (i := 14) rfl)) (hw _ (List.mem_of_getElem? (i := 6) rfl)) (by decide) (by decide) (own_EW hw) (CHr.refl hH).1) (g := (mkF m 6 #[.val (.ref a1), .val (.ref a2)] [.null, (.int (0 : Int32)), (.int (0 : Int32)), (.ref a2), (.ref a1)])) rfl (by rw [hml]; rfl) (Steps.refl _) (a := a1) (argsL := [(.ref a2), (.int (0 : Int32)), (.int (0 : Int32)), .null]) (rest := []) (lenOf pd_0 rfl) rfl (by show 2 * 0 + _ ≤ _; exact Nat.le_of_eq rfl) (hb hby d2_6) (fun _ _ => ⟨rfl, e0, (by decide : 0 + 4 ≤ _), (by decide : 0 + 8 ≤ _)⟩)
  dsimp only [Pt.U, Pt.locs, Pt.cells, Pt.slots] at X101 l101 y101 z101 st101 hQ101 hS101 hle101 hC101
  subst l101 y101 z101
  have hle101' : h0.size ≤ T101.heap.size := by have q := hle101; rw [e0] at q; exact q
  obtain ⟨X101', hS101', hZ101, hown101⟩ := rebS (s := s) (vm0 := s.vm) ((State.WarmedH.refl s).since 0) (Nat.zero_le _) X101 hS101 hle101' hZ hown
  obtain ⟨rfl, N101q, K101, Z101⟩ := hQ101
  have N101 := Fr.app N0 N101q
  have ch102 := (CHr.refl hH).trans hC101
  have pre103 : ∀ t_, Steps p.tables e below (T101.setTop (mkF m 9 #[.val (.ref a1), .val (.ref a2)] [])) t_ → Steps p.tables e below (s₁.setTop (entryFrame m #[(.ref a1), (.ref a2)] 2)) t_ := fun t_ k_ => pre0 _ (by
    show Steps p.tables e below (s₁.setTop (mkF m 0 #[.val (.ref a1), .val (.ref a2)] [])) _
    refine XS.aloadN X0.here hx rfl (hb hby d2_0) rfl rfl ?_
    show Steps p.tables e below (s₁.setTop (mkF m 1 #[.val (.ref a1), .val (.ref a2)] [(.ref a1)])) _
    refine XS.aloadN X0.here hx rfl (hb hby d2_1) rfl rfl ?_
    show Steps p.tables e below (s₁.setTop (mkF m 2 #[.val (.ref a1), .val (.ref a2)] [(.ref a2), (.ref a1)])) _
    refine XS.iconst X0.here hx rfl (hb hby d2_2) ?_
    show Steps p.tables e below (s₁.setTop (mkF m 3 #[.val (.ref a1), .val (.ref a2)] [(.int (0 : Int32)), (.ref a2), (.ref a1)])) _
    refine XS.aloadN X0.here hx rfl (hb hby d2_3) rfl rfl ?_
    show Steps p.tables e below (s₁.setTop (mkF m 4 #[.val (.ref a1), .val (.ref a2)] [(.ref a2), (.int (0 : Int32)), (.ref a2), (.ref a1)])) _
    refine X0.arraylength hx (by rw [e0]; exact Ar.1) (State.isArrayOf_alike hZ.alike Ar.2.1) (g := (mkF m 4 #[.val (.ref a1), .val (.ref a2)] [(.ref a2), (.int (0 : Int32)), (.ref a2), (.ref a1)])) rfl rfl (hb hby d2_4) _ ?_
    rw [len_of Sz Ng]
    show Steps p.tables e below (s₁.setTop (mkF m 5 #[.val (.ref a1), .val (.ref a2)] [(.int (0 : Int32)), (.int (0 : Int32)), (.ref a2), (.ref a1)])) _
    refine XS.aconstNull X0.here hx rfl (hb hby d2_5) ?_
    show Steps p.tables e below (s₁.setTop (mkF m 6 #[.val (.ref a1), .val (.ref a2)] [.null, (.int (0 : Int32)), (.int (0 : Int32)), (.ref a2), (.ref a1)])) _
    refine st101.trans ?_
    exact k_)
  obtain ⟨fs, hr, hrun, hended, hWr, hW1, hW2, hsame⟩ := Jvm.Stand.leaveW (s := s) X101' hS101' (by exact (Nat.le_refl _)) (v := none) (fun _ => rfl)
  refine ⟨_, _, pre103 _ ?_, hrun, hended, _, _, rfl, ?_, (by show CHr Z own_EL s.vm s.heap T101.vm T101.heap; rw [hh]; exact ch102.trans (CHv.at (s := s) (vm0 := T101.vm) X101' hZ101 (own_EW hw) ch102.1)), hWr, hW1, hW2, hsame.mono (by decide) (by decide)⟩
  · show Steps p.tables e below (T101.setTop (mkF m 9 #[.val (.ref a1), .val (.ref a2)] [])) _
    exact X101'.returnOut hx Bd.returns (hb hby d2_9) hr
  · show QrmS1 Z a1 a2 kc h0 n0 _ T101.heap _
    exact ⟨rfl, N101, K101, Z101⟩
theorem pd_1 : parseMethodDescriptor "([C)V" = some ⟨[(.array .char)], none⟩ := by decide +kernel
theorem d1_0 : decode method_2_code 0 = .ok (.iload_n 0, 1) := by decide +kernel
theorem d1_1 : decode method_2_code 1 = .ok (.ifCond .ne 14, 3) := by decide +kernel
theorem d1_4 : decode method_2_code 4 = .ok (.new 7, 3) := by decide +kernel
theorem d1_7 : decode method_2_code 7 = .ok (.dup, 1) := by decide +kernel
theorem d1_8 : decode method_2_code 8 = .ok (.iconst 0, 1) := by decide +kernel
theorem d1_9 : decode method_2_code 9 = .ok (.newarray .char, 2) := by decide +kernel
theorem d1_11 : decode method_2_code 11 = .ok (.invokespecial 9, 3) := by decide +kernel
theorem d1_14 : decode method_2_code 14 = .ok (.areturn, 1) := by decide +kernel
theorem d1_15 : decode method_2_code 15 = .ok (.iload_n 0, 1) := by decide +kernel
theorem d1_16 : decode method_2_code 16 = .ok (.iconst 1, 1) := by decide +kernel
theorem d1_17 : decode method_2_code 17 = .ok (.if_icmp .ne 18, 3) := by decide +kernel
theorem d1_20 : decode method_2_code 20 = .ok (.new 7, 3) := by decide +kernel
theorem d1_23 : decode method_2_code 23 = .ok (.dup, 1) := by decide +kernel
theorem d1_24 : decode method_2_code 24 = .ok (.iconst 1, 1) := by decide +kernel
theorem d1_25 : decode method_2_code 25 = .ok (.newarray .char, 2) := by decide +kernel
theorem d1_27 : decode method_2_code 27 = .ok (.dup, 1) := by decide +kernel
theorem d1_28 : decode method_2_code 28 = .ok (.iconst 0, 1) := by decide +kernel
theorem d1_29 : decode method_2_code 29 = .ok (.iload_n 1, 1) := by decide +kernel
theorem d1_30 : decode method_2_code 30 = .ok (.castore, 1) := by decide +kernel
theorem d1_31 : decode method_2_code 31 = .ok (.invokespecial 9, 3) := by decide +kernel
theorem d1_34 : decode method_2_code 34 = .ok (.areturn, 1) := by decide +kernel
theorem d1_35 : decode method_2_code 35 = .ok (.new 7, 3) := by decide +kernel
theorem d1_38 : decode method_2_code 38 = .ok (.dup, 1) := by decide +kernel
theorem d1_39 : decode method_2_code 39 = .ok (.iconst 2, 1) := by decide +kernel
theorem d1_40 : decode method_2_code 40 = .ok (.newarray .char, 2) := by decide +kernel
theorem d1_42 : decode method_2_code 42 = .ok (.dup, 1) := by decide +kernel
theorem d1_43 : decode method_2_code 43 = .ok (.iconst 0, 1) := by decide +kernel
theorem d1_44 : decode method_2_code 44 = .ok (.iload_n 1, 1) := by decide +kernel
theorem d1_45 : decode method_2_code 45 = .ok (.castore, 1) := by decide +kernel
theorem d1_46 : decode method_2_code 46 = .ok (.dup, 1) := by decide +kernel
theorem d1_47 : decode method_2_code 47 = .ok (.iconst 1, 1) := by decide +kernel
theorem d1_48 : decode method_2_code 48 = .ok (.iload_n 2, 1) := by decide +kernel
theorem d1_49 : decode method_2_code 49 = .ok (.castore, 1) := by decide +kernel
theorem d1_50 : decode method_2_code 50 = .ok (.invokespecial 9, 3) := by decide +kernel
theorem d1_53 : decode method_2_code 53 = .ok (.areturn, 1) := by decide +kernel
theorem pn_1 : plainName "com/example/cranfield/cranfield/model/TopicEqualsPinLaw" = true := by first | (simp [plainName, overriddenIn]; done) | decide +kernel
theorem ef_rmStr (m : MethodId) (x0 : Int32) (x1 : Int32) (x2 : Int32) : entryFrame m #[(.int x0), (.int x1), (.int x2)] 3 = mkF m 0 #[.val (.int x0), .val (.int x1), .val (.int x2)] [] := by first | (simp [entryFrame, mkF, argsToLocals, Value.category]; done) | rfl
def QrmStr (Z : State) (p1 : Int32) (p2 : Int32) (p3 : Int32) (zc : Int32) (h0 : Heap) (n0 : Nat) (v : Option Value) (h : Heap) (L : List Loc) : Prop := ∃ x : Addr, v = some (.ref x) ∧ Fr n0 L ∧ Keep h0 h [] ∧ own_Str Z h x (own_cs p1 p2 p3) ∧ h0.size ≤ x
set_option maxRecDepth 65536 in
set_option maxHeartbeats 40000000 in
theorem rmStr (l : Launch) (Z : State) (a0 : Array Value) (hw : ∀ d ∈ tables_1, d.before a0 Z = true) (ws : List Jvm.Cond) (p1 : Int32) (p2 : Int32) (p3 : Int32) (zc : Int32) (h0 : Heap) (n0 : Nat) (Z0 : n0 ≤ h0.size) (O : Old Z n0 h0) (S_c : Sta Z Z.heap "java/lang/String" "COMPACT_STRINGS" "Z" (.int zc)) (hzc : ¬ zc = 0) (b1 : ¬ p2 < 0 ∧ ¬ (255 : Int32) < p2) (b2 : ¬ p3 < 0 ∧ ¬ (255 : Int32) < p3) :
    MetFree l (⟨"com/example/cranfield/cranfield/model/TopicEqualsPinLaw", "str", "(ICC)Ljava/lang/String;"⟩ : MethodName) (head1 (Jvm.Cond.code (⟨"com/example/cranfield/cranfield/model/TopicEqualsPinLaw", "str", "(ICC)Ljava/lang/String;"⟩ : MethodName) method_2_code 3 (some (.object "java/lang/String")) :: ws) ({ frames := 4, cells := 6, slots := 12, locals := 66 } : Room)) (fun a U => a = #[(.int p1), (.int p2), (.int p3)] ∧ Z.Warmed39 U.vm ∧ U.heap = h0 ∧ CHv Z own_EL U.vm h0) (fun _ _ _ _ _ => True) (fun _ U o U' => ∃ v L, o = .returned v ∧ QrmStr Z p1 p2 p3 zc h0 n0 v U'.heap L ∧ CHr Z own_EL U.vm U.heap U'.vm U'.heap ∧ ReturnedEndW U o U' L ({ frames := 4, cells := 6, slots := 12, locals := 66 } : Room).cells ({ frames := 4, cells := 6, slots := 12, locals := 66 } : Room).slots) := by
  refine MetFree.of_bodySF (plainFor_of_name pn_1) hisR ?_
  intro p e s m args below meth c s₁ Bd hml0 hP hK
  obtain ⟨rfl, hZ, hh, hH⟩ := hP
  have hx := Bd.exec
  have hby := Bd.bytes
  have hml : c.maxLocals = 3 := hml0
  have hown : s.vm.findClass "com/example/cranfield/cranfield/model/TopicEqualsPinLaw" = some m.cls := findClass_of_methodNamed Bd.named
  have hnm := (name_of_methodNamed Bd.named Bd.method).1
  have X0 : Stand p l e ({ frames := 4, cells := 6, slots := 12, locals := 66 } : Room) s m #[(.int p1), (.int p2), (.int p3)] below meth c s₁ [] 0 0 := Stand.of_body Bd
  have e0 : s₁.heap = h0 := by rw [← hh, Bd.state]; rfl
  have N0 := Fr.nil n0
  have pre0 : ∀ t_, Steps p.tables e below (s₁.setTop (mkF m 0 #[.val (.int p1), .val (.int p2), .val (.int p3)] [])) t_ → Steps p.tables e below (s₁.setTop (entryFrame m #[(.int p1), (.int p2), (.int p3)] 3)) t_ := fun t_ k_ => castTop (ef_rmStr m p1 p2 p3) k_
  have pre101 : ∀ t_, Steps p.tables e below (s₁.setTop (mkF m 1 #[.val (.int p1), .val (.int p2), .val (.int p3)] [(.int p1)])) t_ → Steps p.tables e below (s₁.setTop (entryFrame m #[(.int p1), (.int p2), (.int p3)] 3)) t_ := fun t_ k_ => pre0 _ (by
    show Steps p.tables e below (s₁.setTop (mkF m 0 #[.val (.int p1), .val (.int p2), .val (.int p3)] [])) _
    refine XS.iloadN X0.here hx rfl (hb hby d1_0) rfl ?_
    exact k_)
  by_cases hc0 : p1 = (0 : Int32)
  · skip
    obtain ⟨T102, h102, X102, e102, Ext_x, E_x, D_x, -, st102⟩ := newO X0 hx hZ hown (hw _ (List.mem_of_getElem? (i := 4) rfl)) (hw _ (List.mem_of_getElem? (i := 5) rfl)) (hw _ (List.mem_of_getElem? (i := 6) rfl)) e0 (g := (mkF m 4 #[.val (.int p1), .val (.int p2), .val (.int p3)] [])) rfl (hb hby d1_4) (by decide) (by decide)
    obtain ⟨x, eq_x⟩ : ∃ z, z = h0.size := ⟨_, rfl⟩
    rw [← eq_x] at E_x D_x st102
    have g_x : n0 ≤ x := Nat.le_trans Z0 (Nat.le_of_eq eq_x.symm)
    have O_103 := O.ext Ext_x
    have Z104 : n0 ≤ h102.size := Nat.le_trans Z0 (Ext_x.1)
    have ch105 := (CHr.refl hH).trans (CHr.ext Ext_x (CHr.refl hH).1)
    have Fv_x : Fld Z h102 x "java/lang/String" "value" "[B" .null := D_x (Or.inr (hw _ (List.mem_of_getElem? (i := 20) rfl))) (ty := (.array .byte)) (by decide)
    have Fc_x : Fld Z h102 x "java/lang/String" "coder" "B" (.int (0 : Int32)) := D_x (Or.inr (hw _ (List.mem_of_getElem? (i := 21) rfl))) (ty := .byte) (by decide)
    have K0_x := (Keep.refl h0 []).ext Ext_x
    obtain ⟨T106, h106, k_ch, X106, e106, Ext_ch, A_ch, st106⟩ := newP X102 hx hZ (hw _ (List.mem_of_getElem? (i := 7) rfl)) e102 (g := (mkF m 9 #[.val (.int p1), .val (.int p2), .val (.int p3)] [(.int (0 : Int32)), (.ref x), (.ref x)])) rfl (hb hby d1_9) rfl (by decide) (cap := 0) (by decide) (by decide) (by decide) (by decide)
    obtain ⟨ch, eq_ch⟩ : ∃ z, z = h102.size := ⟨_, rfl⟩
    rw [← eq_ch] at A_ch st106
    have g_ch : n0 ≤ ch := Nat.le_trans Z104 (Nat.le_of_eq eq_ch.symm)
    have O_107 := O_103.ext Ext_ch
    have ne_x_ch : x ≠ ch := Nat.ne_of_lt (Nat.lt_of_lt_of_le E_x.lt (Nat.le_of_eq eq_ch.symm))
    have E_x_108 := E_x.ext Ext_ch
    have Fv_x_109 := Fv_x.ext Ext_ch
    have Fc_x_110 := Fc_x.ext Ext_ch
    have KK_x_111 := K0_x.ext Ext_ch
    have Z112 : n0 ≤ h106.size := Nat.le_trans Z104 (Ext_ch.1)
    have ch113 := ch105.trans (CHr.ext Ext_ch ch105.1)
    have V_ch : Arv Z h106 ch k_ch .char (0 : Int32) [] (.int (0 : Int32)) := Arv.new A_ch (by decide)
    have sz_ch : h0.size ≤ ch := Nat.le_trans K0_x.1 (Nat.le_of_eq eq_ch.symm)
    obtain ⟨_, _, ⟨T114, L114, k114, n114⟩, -, X114, hS114, hle114, ⟨Lc114, hQ114, l114, y114, z114, hC114⟩, st114⟩ := Jvm.Stand.specialBackS (s := (s.setVm s.vm)) X106 hx (y := (⟨"java/lang/String", "<init>", "([C)V"⟩ : MethodName)) rfl hown (mvT hZ (hw _ (List.mem_of_getElem? (i := 8) rfl))) (mvT hZ (hw _ (List.mem_of_getElem? (i := 9) rfl))) (mvT hZ (hw _ (List.mem_of_getElem? (i := 10) rfl))) (by decide) (backOfSH (s := s) (vm0 := s.vm) (W := 1) (rmS1 l Z a0 hw [] x ch k_ch h106 n0 Z112 E_x_108 Fv_x_109 Fc_x_110 g_x V_ch) hZ (hw _ (List.mem_of_getElem? (i := 10) rfl)) (hw _ (List.mem_of_getElem? (i := 6) rfl)) (by decide) (by decide) (own_EW hw) ch113.1) (g := (mkF m 11 #[.val (.int p1), .val (.int p2), .val (.int p3)] [(.ref ch), (.ref x), (.ref x)])) rfl (by rw [hml]; rfl) (Steps.refl _) (a := x) (argsL := [(.ref ch)]) (rest := [(.ref x)]) (lenOf pd_1 rfl) rfl (by show 2 * 0 + _ ≤ _; exact Nat.le_of_eq rfl) (hb hby d1_11) (fun _ _ => ⟨rfl, e106, (by decide : 2 + 4 ≤ _), (by decide : 4 + 8 ≤ _)⟩)
    dsimp only [Pt.U, Pt.locs, Pt.cells, Pt.slots] at X114 l114 y114 z114 st114 hQ114 hS114 hle114 hC114
    subst l114 y114 z114
    have hle114' : h106.size ≤ T114.heap.size := by have q := hle114; rw [e106] at q; exact q
    obtain ⟨X114', hS114', hZ114, hown114⟩ := rebS (s := s) (vm0 := s.vm) ((State.WarmedH.refl s).since 0) (Nat.zero_le _) X114 hS114 hle114' hZ hown
    obtain ⟨rfl, N114q, K114, tb114, kb114, Es114, Vs114, Cs114, As114⟩ := hQ114
    have N114 := Fr.app N0 N114q
    have ch115 := ch113.trans hC114
    have Str_x : own_Str Z T114.heap x [] := ⟨tb114, kb114, 0, 0, [], Es114, Vs114, Cs114, As114, Or.inl ⟨rfl, rfl, rfl, by simp⟩, by simp, by simp⟩
    have K_x := KK_x_111.trans K114 (allS (Or.inr (Nat.le_of_eq eq_x.symm)) all0)
    have Z116 : n0 ≤ T114.heap.size := Nat.le_trans Z112 (K114.1)
    have pre117 : ∀ t_, Steps p.tables e below (T114.setTop (mkF m 14 #[.val (.int p1), .val (.int p2), .val (.int p3)] [(.ref x)])) t_ → Steps p.tables e below (s₁.setTop (entryFrame m #[(.int p1), (.int p2), (.int p3)] 3)) t_ := fun t_ k_ => pre101 _ (by
      show Steps p.tables e below (s₁.setTop (mkF m 1 #[.val (.int p1), .val (.int p2), .val (.int p3)] [(.int p1)])) _
      refine XS.ifNo X0.here hx rfl (hb hby d1_1) rfl ((if0 _ _).trans (teq hc0).2) ?_
      show Steps p.tables e below (s₁.setTop (mkF m 4 #[.val (.int p1), .val (.int p2), .val (.int p3)] [])) _
      refine st102 _ ?_
      show Steps p.tables e below (T102.setTop (mkF m 7 #[.val (.int p1), .val (.int p2), .val (.int p3)] [(.ref x)])) _
      refine XS.dup X102.here hx rfl (hb hby d1_7) rfl rfl ?_
      show Steps p.tables e below (T102.setTop (mkF m 8 #[.val (.int p1), .val (.int p2), .val (.int p3)] [(.ref x), (.ref x)])) _
      refine XS.iconst X102.here hx rfl (hb hby d1_8) ?_
      show Steps p.tables e below (T102.setTop (mkF m 9 #[.val (.int p1), .val (.int p2), .val (.int p3)] [(.int (0 : Int32)), (.ref x), (.ref x)])) _
      refine st106 _ ?_
      show Steps p.tables e below (T106.setTop (mkF m 11 #[.val (.int p1), .val (.int p2), .val (.int p3)] [(.ref ch), (.ref x), (.ref x)])) _
      refine st114.trans ?_
      exact k_)
    obtain ⟨fs, hr, hrun, hended, hWr, hW1, hW2, hsame⟩ := Jvm.Stand.leaveW (s := s) X114' hS114' (by exact (Nat.le_refl _)) (v := some (.ref x)) (fun h => by rw [Bd.returns] at h; cases h)
    refine ⟨_, _, pre117 _ ?_, hrun, hended, _, _, rfl, ?_, (by show CHr Z own_EL s.vm s.heap T114.vm T114.heap; rw [hh]; exact ch115.trans (CHv.at (s := s) (vm0 := T114.vm) X114' hZ114 (own_EW hw) ch115.1)), hWr, hW1, hW2, hsame.mono (by decide) (by decide)⟩
    · show Steps p.tables e below (T114.setTop (mkF m 14 #[.val (.int p1), .val (.int p2), .val (.int p3)] [(.ref x)])) _
      jvm_step X114'.here [X114'.here.top, hx, (hb hby d1_14), X114'.method', Bd.returns, Value.isRef, FieldType.isReference]
      first | (intro acts; rw [hr _ acts rfl rfl rfl]) | rw [hr _ _ rfl rfl rfl]
      exact Steps.refl _
    · show QrmStr Z p1 p2 p3 zc h0 n0 _ T114.heap _
      exact ⟨x, rfl, N114, K_x, by rw [own_cs, if_pos hc0]; exact Str_x, Nat.le_of_eq eq_x.symm⟩
  · skip
    have pre118 : ∀ t_, Steps p.tables e below (s₁.setTop (mkF m 17 #[.val (.int p1), .val (.int p2), .val (.int p3)] [(.int (1 : Int32)), (.int p1)])) t_ → Steps p.tables e below (s₁.setTop (entryFrame m #[(.int p1), (.int p2), (.int p3)] 3)) t_ := fun t_ k_ => pre101 _ (by
      show Steps p.tables e below (s₁.setTop (mkF m 1 #[.val (.int p1), .val (.int p2), .val (.int p3)] [(.int p1)])) _
      refine XS.ifYes X0.here hx rfl (pc0 := 1) (pc' := 15) rfl (hb hby d1_1) rfl ((if0 _ _).trans (feq hc0).2) (by decide) (by decide) ?_
      show Steps p.tables e below (s₁.setTop (mkF m 15 #[.val (.int p1), .val (.int p2), .val (.int p3)] [])) _
      refine XS.iloadN X0.here hx rfl (hb hby d1_15) rfl ?_
      show Steps p.tables e below (s₁.setTop (mkF m 16 #[.val (.int p1), .val (.int p2), .val (.int p3)] [(.int p1)])) _
      refine XS.iconst X0.here hx rfl (hb hby d1_16) ?_
      exact k_)
    by_cases hc1 : p1 = (1 : Int32)
    · skip
      have e2 : nar .char p2 = p2 := own_narc b1
      have e3 : nar .char p3 = p3 := own_narc b2
      have lat : ∀ c ∈ [nar .char p2], ¬ c < 0 ∧ ¬ (255 : Int32) < c := by
        rw [e2]
        intro c hc
        simp only [List.mem_cons, List.not_mem_nil, or_false] at hc
        rcases hc with rfl
        · exact b1
      obtain ⟨T119, h119, X119, e119, Ext_x, E_x, D_x, -, st119⟩ := newO X0 hx hZ hown (hw _ (List.mem_of_getElem? (i := 4) rfl)) (hw _ (List.mem_of_getElem? (i := 5) rfl)) (hw _ (List.mem_of_getElem? (i := 6) rfl)) e0 (g := (mkF m 20 #[.val (.int p1), .val (.int p2), .val (.int p3)] [])) rfl (hb hby d1_20) (by decide) (by decide)
      obtain ⟨x, eq_x⟩ : ∃ z, z = h0.size := ⟨_, rfl⟩
      rw [← eq_x] at E_x D_x st119
      have g_x : n0 ≤ x := Nat.le_trans Z0 (Nat.le_of_eq eq_x.symm)
      have O_120 := O.ext Ext_x
      have Z121 : n0 ≤ h119.size := Nat.le_trans Z0 (Ext_x.1)
      have ch122 := (CHr.refl hH).trans (CHr.ext Ext_x (CHr.refl hH).1)
      have Fv_x : Fld Z h119 x "java/lang/String" "value" "[B" .null := D_x (Or.inr (hw _ (List.mem_of_getElem? (i := 20) rfl))) (ty := (.array .byte)) (by decide)
      have Fc_x : Fld Z h119 x "java/lang/String" "coder" "B" (.int (0 : Int32)) := D_x (Or.inr (hw _ (List.mem_of_getElem? (i := 21) rfl))) (ty := .byte) (by decide)
      have K0_x := (Keep.refl h0 []).ext Ext_x
      obtain ⟨T123, h123, k_ch, X123, e123, Ext_ch, A_ch, st123⟩ := newP X119 hx hZ (hw _ (List.mem_of_getElem? (i := 7) rfl)) e119 (g := (mkF m 25 #[.val (.int p1), .val (.int p2), .val (.int p3)] [(.int (1 : Int32)), (.ref x), (.ref x)])) rfl (hb hby d1_25) rfl (by decide) (cap := 1) (by decide) (by decide) (by decide) (by decide)
      obtain ⟨ch, eq_ch⟩ : ∃ z, z = h119.size := ⟨_, rfl⟩
      rw [← eq_ch] at A_ch st123
      have g_ch : n0 ≤ ch := Nat.le_trans Z121 (Nat.le_of_eq eq_ch.symm)
      have O_124 := O_120.ext Ext_ch
      have ne_x_ch : x ≠ ch := Nat.ne_of_lt (Nat.lt_of_lt_of_le E_x.lt (Nat.le_of_eq eq_ch.symm))
      have E_x_125 := E_x.ext Ext_ch
      have Fv_x_126 := Fv_x.ext Ext_ch
      have Fc_x_127 := Fc_x.ext Ext_ch
      have KK_x_128 := K0_x.ext Ext_ch
      have Z129 : n0 ≤ h123.size := Nat.le_trans Z121 (Ext_ch.1)
      have ch130 := ch122.trans (CHr.ext Ext_ch ch122.1)
      have V_ch : Arv Z h123 ch k_ch .char (1 : Int32) [(.int (0 : Int32))] (.int (0 : Int32)) := (Arv.new A_ch (by decide)).pad (pad_rep [] (.int (0 : Int32)) 1)
      have sz_ch : h0.size ≤ ch := Nat.le_trans K0_x.1 (Nat.le_of_eq eq_ch.symm)
      obtain ⟨cl131, Ar131, qk131, Sz131, Ng131, Hs131, Gs131⟩ := V_ch
      have hin131 : ¬ ((0 : Int32) < 0 ∨ cl131.slots.size ≤ ((0 : Int32)).toNatClampNeg) := inb_of Sz131 ⟨by decide, by decide⟩
      obtain ⟨T132, h132, X132, e132, W132, st132⟩ := stC X123 hx hZ e123 Ar131 (j := (0 : Int32)) hin131 (g := (mkF m 30 #[.val (.int p1), .val (.int p2), .val (.int p3)] [(.int p2), (.int (0 : Int32)), (.ref ch), (.ref ch), (.ref x), (.ref x)])) rfl rfl (hb hby d1_30)
      have O_133 := O_124.wr W132 g_ch
      have E_x_134 := E_x_125.wr W132
      have Fv_x_135 := Fv_x_126.other W132 (Or.inl ne_x_ch)
      have Fc_x_136 := Fc_x_127.other W132 (Or.inl ne_x_ch)
      have KK_x_137 := KK_x_128.wr W132 (Or.inr sz_ch)
      have V_ch_132 : Arv Z h132 ch k_ch .char (1 : Int32) [(.int (nar .char p2))] (.int (0 : Int32)) := Arv.set Ar131 qk131 Sz131 Ng131 Hs131 Gs131 (fits_nar_char _) W132 0 rfl (Nat.le_of_ble_eq_true rfl)
      have N132 := Fr.snoc X132 N0 g_ch
      have Z139 : n0 ≤ h132.size := Nat.le_trans Z129 ((Keep.of_wr W132).1)
      obtain ⟨_, _, ⟨T140, L140, k140, n140⟩, -, X140, ⟨Lc140, hQ140, l140, y140, z140⟩, st140⟩ := X132.specialBack hx (y := (⟨"java/lang/String", "<init>", "([C)V"⟩ : MethodName)) rfl hown (mvT hZ (hw _ (List.mem_of_getElem? (i := 8) rfl))) (mvT hZ (hw _ (List.mem_of_getElem? (i := 9) rfl))) (mvT hZ (hw _ (List.mem_of_getElem? (i := 10) rfl))) (by decide) (StrChars.Road.backV (W := 1) hZ (own_hws hw) (kI := 4) (hw _ (List.mem_of_getElem? (i := 5) rfl)) (cs := [(nar .char p2)]) (bs := [((nar .char p2)).toInt8.toInt32]) (n := 1) g_x Z139 E_x_134 Fv_x_135 Fc_x_136 V_ch_132 (S_c.ext O_133.2) hzc rfl rfl (by decide) (by decide) lat rfl (by decide) (by decide)) (g := (mkF m 31 #[.val (.int p1), .val (.int p2), .val (.int p3)] [(.ref ch), (.ref x), (.ref x)])) rfl (by rw [hml]; rfl) (Steps.refl _) (a := x) (argsL := [(.ref ch)]) (rest := [(.ref x)]) (lenOf pd_1 rfl) rfl (by show 2 * 0 + _ ≤ _; exact Nat.le_of_eq rfl) (hb hby d1_31) (fun _ _ => ⟨rfl, e132, (by decide : 2 + 1 ≤ _), (by decide : 5 + 1 ≤ _)⟩)
      dsimp only [Pt.U, Pt.locs, Pt.cells, Pt.slots] at X140 l140 y140 z140 st140 hQ140
      subst l140 y140 z140
      obtain ⟨rfl, N140q, K140, Es140, Cs140, tb140, kb140, -, -, -, Vs140, As140⟩ := hQ140
      have N140 := Fr.app N132 N140q
      have Str_x : own_Str Z T140.heap x [(nar .char p2)] := ⟨tb140, kb140, 0, _, _, Es140, Vs140, Cs140, As140, StrChars.Road.codOf (n := 1) rfl (fun c hc => (lat c hc).2), fun c hc => own_to16 (lat c hc), by simp⟩
      have K_x := KK_x_137.trans K140 (allS (Or.inr (Nat.le_of_eq eq_x.symm)) all0)
      have Z141 : n0 ≤ T140.heap.size := Nat.le_trans Z139 (K140.1)
      rw [e2] at Str_x
      have pre142 : ∀ t_, Steps p.tables e below (T140.setTop (mkF m 34 #[.val (.int p1), .val (.int p2), .val (.int p3)] [(.ref x)])) t_ → Steps p.tables e below (s₁.setTop (entryFrame m #[(.int p1), (.int p2), (.int p3)] 3)) t_ := fun t_ k_ => pre118 _ (by
        show Steps p.tables e below (s₁.setTop (mkF m 17 #[.val (.int p1), .val (.int p2), .val (.int p3)] [(.int (1 : Int32)), (.int p1)])) _
        refine XS.icmpNo X0.here hx rfl (hb hby d1_17) rfl (teq hc1).2 ?_
        show Steps p.tables e below (s₁.setTop (mkF m 20 #[.val (.int p1), .val (.int p2), .val (.int p3)] [])) _
        refine st119 _ ?_
        show Steps p.tables e below (T119.setTop (mkF m 23 #[.val (.int p1), .val (.int p2), .val (.int p3)] [(.ref x)])) _
        refine XS.dup X119.here hx rfl (hb hby d1_23) rfl rfl ?_
        show Steps p.tables e below (T119.setTop (mkF m 24 #[.val (.int p1), .val (.int p2), .val (.int p3)] [(.ref x), (.ref x)])) _
        refine XS.iconst X119.here hx rfl (hb hby d1_24) ?_
        show Steps p.tables e below (T119.setTop (mkF m 25 #[.val (.int p1), .val (.int p2), .val (.int p3)] [(.int (1 : Int32)), (.ref x), (.ref x)])) _
        refine st123 _ ?_
        show Steps p.tables e below (T123.setTop (mkF m 27 #[.val (.int p1), .val (.int p2), .val (.int p3)] [(.ref ch), (.ref x), (.ref x)])) _
        refine XS.dup X123.here hx rfl (hb hby d1_27) rfl rfl ?_
        show Steps p.tables e below (T123.setTop (mkF m 28 #[.val (.int p1), .val (.int p2), .val (.int p3)] [(.ref ch), (.ref ch), (.ref x), (.ref x)])) _
        refine XS.iconst X123.here hx rfl (hb hby d1_28) ?_
        show Steps p.tables e below (T123.setTop (mkF m 29 #[.val (.int p1), .val (.int p2), .val (.int p3)] [(.int (0 : Int32)), (.ref ch), (.ref ch), (.ref x), (.ref x)])) _
        refine XS.iloadN X123.here hx rfl (hb hby d1_29) rfl ?_
        show Steps p.tables e below (T123.setTop (mkF m 30 #[.val (.int p1), .val (.int p2), .val (.int p3)] [(.int p2), (.int (0 : Int32)), (.ref ch), (.ref ch), (.ref x), (.ref x)])) _
        refine st132 _ ?_
        show Steps p.tables e below (T132.setTop (mkF m 31 #[.val (.int p1), .val (.int p2), .val (.int p3)] [(.ref ch), (.ref x), (.ref x)])) _
        refine st140.trans ?_
        exact k_)
      obtain ⟨fs, hr, hrun, hended, hW, hsame⟩ := X140.leave (v := some (.ref x)) (fun h => by rw [Bd.returns] at h; cases h)
      refine ⟨_, _, pre142 _ ?_, hrun, hended, _, _, rfl, ?_, (by show CHr Z own_EL s.vm s.heap T140.vm T140.heap; rw [hh]; exact (CHr.keep K_x (fun _ q => nomatch q) hH).trans (CHv.at (s := s) (vm0 := s.vm) X140 hZ (own_EW hw) (CHr.keep K_x (fun _ q => nomatch q) hH).1)), ReturnedEndW.of_narrow ⟨_, rfl⟩ hW (hsame.mono (by decide) (by decide))⟩
      · show Steps p.tables e below (T140.setTop (mkF m 34 #[.val (.int p1), .val (.int p2), .val (.int p3)] [(.ref x)])) _
        jvm_step X140.here [X140.here.top, hx, (hb hby d1_34), X140.method', Bd.returns, Value.isRef, FieldType.isReference]
        first | (intro acts; rw [hr _ acts rfl rfl rfl]) | rw [hr _ _ rfl rfl rfl]
        exact Steps.refl _
      · show QrmStr Z p1 p2 p3 zc h0 n0 _ T140.heap _
        exact ⟨x, rfl, N140, K_x, by rw [own_cs, if_neg hc0, if_pos hc1]; exact Str_x, Nat.le_of_eq eq_x.symm⟩
    · skip
      have e2 : nar .char p2 = p2 := own_narc b1
      have e3 : nar .char p3 = p3 := own_narc b2
      have lat : ∀ c ∈ [nar .char p2, nar .char p3], ¬ c < 0 ∧ ¬ (255 : Int32) < c := by
        rw [e2, e3]
        intro c hc
        simp only [List.mem_cons, List.not_mem_nil, or_false] at hc
        rcases hc with rfl | rfl
        · exact b1
        · exact b2
      obtain ⟨T143, h143, X143, e143, Ext_x, E_x, D_x, -, st143⟩ := newO X0 hx hZ hown (hw _ (List.mem_of_getElem? (i := 4) rfl)) (hw _ (List.mem_of_getElem? (i := 5) rfl)) (hw _ (List.mem_of_getElem? (i := 6) rfl)) e0 (g := (mkF m 35 #[.val (.int p1), .val (.int p2), .val (.int p3)] [])) rfl (hb hby d1_35) (by decide) (by decide)
      obtain ⟨x, eq_x⟩ : ∃ z, z = h0.size := ⟨_, rfl⟩
      rw [← eq_x] at E_x D_x st143
      have g_x : n0 ≤ x := Nat.le_trans Z0 (Nat.le_of_eq eq_x.symm)
      have O_144 := O.ext Ext_x
      have Z145 : n0 ≤ h143.size := Nat.le_trans Z0 (Ext_x.1)
      have ch146 := (CHr.refl hH).trans (CHr.ext Ext_x (CHr.refl hH).1)
      have Fv_x : Fld Z h143 x "java/lang/String" "value" "[B" .null := D_x (Or.inr (hw _ (List.mem_of_getElem? (i := 20) rfl))) (ty := (.array .byte)) (by decide)
      have Fc_x : Fld Z h143 x "java/lang/String" "coder" "B" (.int (0 : Int32)) := D_x (Or.inr (hw _ (List.mem_of_getElem? (i := 21) rfl))) (ty := .byte) (by decide)
      have K0_x := (Keep.refl h0 []).ext Ext_x
      obtain ⟨T147, h147, k_ch, X147, e147, Ext_ch, A_ch, st147⟩ := newP X143 hx hZ (hw _ (List.mem_of_getElem? (i := 7) rfl)) e143 (g := (mkF m 40 #[.val (.int p1), .val (.int p2), .val (.int p3)] [(.int (2 : Int32)), (.ref x), (.ref x)])) rfl (hb hby d1_40) rfl (by decide) (cap := 2) (by decide) (by decide) (by decide) (by decide)
      obtain ⟨ch, eq_ch⟩ : ∃ z, z = h143.size := ⟨_, rfl⟩
      rw [← eq_ch] at A_ch st147
      have g_ch : n0 ≤ ch := Nat.le_trans Z145 (Nat.le_of_eq eq_ch.symm)
      have O_148 := O_144.ext Ext_ch
      have ne_x_ch : x ≠ ch := Nat.ne_of_lt (Nat.lt_of_lt_of_le E_x.lt (Nat.le_of_eq eq_ch.symm))
      have E_x_149 := E_x.ext Ext_ch
      have Fv_x_150 := Fv_x.ext Ext_ch
      have Fc_x_151 := Fc_x.ext Ext_ch
      have KK_x_152 := K0_x.ext Ext_ch
      have Z153 : n0 ≤ h147.size := Nat.le_trans Z145 (Ext_ch.1)
      have ch154 := ch146.trans (CHr.ext Ext_ch ch146.1)
      have V_ch : Arv Z h147 ch k_ch .char (2 : Int32) [(.int (0 : Int32)), (.int (0 : Int32))] (.int (0 : Int32)) := (Arv.new A_ch (by decide)).pad (pad_rep [] (.int (0 : Int32)) 2)
      have sz_ch : h0.size ≤ ch := Nat.le_trans K0_x.1 (Nat.le_of_eq eq_ch.symm)
      obtain ⟨cl155, Ar155, qk155, Sz155, Ng155, Hs155, Gs155⟩ := V_ch
      have hin155 : ¬ ((0 : Int32) < 0 ∨ cl155.slots.size ≤ ((0 : Int32)).toNatClampNeg) := inb_of Sz155 ⟨by decide, by decide⟩
      obtain ⟨T156, h156, X156, e156, W156, st156⟩ := stC X147 hx hZ e147 Ar155 (j := (0 : Int32)) hin155 (g := (mkF m 45 #[.val (.int p1), .val (.int p2), .val (.int p3)] [(.int p2), (.int (0 : Int32)), (.ref ch), (.ref ch), (.ref x), (.ref x)])) rfl rfl (hb hby d1_45)
      have O_157 := O_148.wr W156 g_ch
      have E_x_158 := E_x_149.wr W156
      have Fv_x_159 := Fv_x_150.other W156 (Or.inl ne_x_ch)
      have Fc_x_160 := Fc_x_151.other W156 (Or.inl ne_x_ch)
      have KK_x_161 := KK_x_152.wr W156 (Or.inr sz_ch)
      have V_ch_156 : Arv Z h156 ch k_ch .char (2 : Int32) [(.int (nar .char p2)), (.int (0 : Int32))] (.int (0 : Int32)) := Arv.set Ar155 qk155 Sz155 Ng155 Hs155 Gs155 (fits_nar_char _) W156 0 rfl (Nat.le_of_ble_eq_true rfl)
      have N156 := Fr.snoc X156 N0 g_ch
      have Z163 : n0 ≤ h156.size := Nat.le_trans Z153 ((Keep.of_wr W156).1)
      obtain ⟨cl164, Ar164, qk164, Sz164, Ng164, Hs164, Gs164⟩ := V_ch_156
      have hin164 : ¬ ((1 : Int32) < 0 ∨ cl164.slots.size ≤ ((1 : Int32)).toNatClampNeg) := inb_of Sz164 ⟨by decide, by decide⟩
      obtain ⟨T165, h165, X165, e165, W165, st165⟩ := stC X156 hx hZ e156 Ar164 (j := (1 : Int32)) hin164 (g := (mkF m 49 #[.val (.int p1), .val (.int p2), .val (.int p3)] [(.int p3), (.int (1 : Int32)), (.ref ch), (.ref ch), (.ref x), (.ref x)])) rfl rfl (hb hby d1_49)
      have O_166 := O_157.wr W165 g_ch
      have E_x_167 := E_x_158.wr W165
      have Fv_x_168 := Fv_x_159.other W165 (Or.inl ne_x_ch)
      have Fc_x_169 := Fc_x_160.other W165 (Or.inl ne_x_ch)
      have KK_x_170 := KK_x_161.wr W165 (Or.inr sz_ch)
      have V_ch_165 : Arv Z h165 ch k_ch .char (2 : Int32) [(.int (nar .char p2)), (.int (nar .char p3))] (.int (0 : Int32)) := Arv.set Ar164 qk164 Sz164 Ng164 Hs164 Gs164 (fits_nar_char _) W165 1 rfl (Nat.le_of_ble_eq_true rfl)
      have N165 := Fr.snoc X165 N156 g_ch
      have Z172 : n0 ≤ h165.size := Nat.le_trans Z163 ((Keep.of_wr W165).1)
      obtain ⟨_, _, ⟨T173, L173, k173, n173⟩, -, X173, ⟨Lc173, hQ173, l173, y173, z173⟩, st173⟩ := X165.specialBack hx (y := (⟨"java/lang/String", "<init>", "([C)V"⟩ : MethodName)) rfl hown (mvT hZ (hw _ (List.mem_of_getElem? (i := 8) rfl))) (mvT hZ (hw _ (List.mem_of_getElem? (i := 9) rfl))) (mvT hZ (hw _ (List.mem_of_getElem? (i := 10) rfl))) (by decide) (StrChars.Road.backV (W := 1) hZ (own_hws hw) (kI := 4) (hw _ (List.mem_of_getElem? (i := 5) rfl)) (cs := [(nar .char p2), (nar .char p3)]) (bs := [((nar .char p2)).toInt8.toInt32, ((nar .char p3)).toInt8.toInt32]) (n := 2) g_x Z172 E_x_167 Fv_x_168 Fc_x_169 V_ch_165 (S_c.ext O_166.2) hzc rfl rfl (by decide) (by decide) lat rfl (by decide) (by decide)) (g := (mkF m 50 #[.val (.int p1), .val (.int p2), .val (.int p3)] [(.ref ch), (.ref x), (.ref x)])) rfl (by rw [hml]; rfl) (Steps.refl _) (a := x) (argsL := [(.ref ch)]) (rest := [(.ref x)]) (lenOf pd_1 rfl) rfl (by show 2 * 0 + _ ≤ _; exact Nat.le_of_eq rfl) (hb hby d1_50) (fun _ _ => ⟨rfl, e165, (by decide : 2 + 1 ≤ _), (by decide : 6 + 2 ≤ _)⟩)
      dsimp only [Pt.U, Pt.locs, Pt.cells, Pt.slots] at X173 l173 y173 z173 st173 hQ173
      subst l173 y173 z173
      obtain ⟨rfl, N173q, K173, Es173, Cs173, tb173, kb173, -, -, -, Vs173, As173⟩ := hQ173
      have N173 := Fr.app N165 N173q
      have Str_x : own_Str Z T173.heap x [(nar .char p2), (nar .char p3)] := ⟨tb173, kb173, 0, _, _, Es173, Vs173, Cs173, As173, StrChars.Road.codOf (n := 2) rfl (fun c hc => (lat c hc).2), fun c hc => own_to16 (lat c hc), by simp⟩
      have K_x := KK_x_170.trans K173 (allS (Or.inr (Nat.le_of_eq eq_x.symm)) all0)
      have Z174 : n0 ≤ T173.heap.size := Nat.le_trans Z172 (K173.1)
      rw [e2, e3] at Str_x
      have pre175 : ∀ t_, Steps p.tables e below (T173.setTop (mkF m 53 #[.val (.int p1), .val (.int p2), .val (.int p3)] [(.ref x)])) t_ → Steps p.tables e below (s₁.setTop (entryFrame m #[(.int p1), (.int p2), (.int p3)] 3)) t_ := fun t_ k_ => pre118 _ (by
        show Steps p.tables e below (s₁.setTop (mkF m 17 #[.val (.int p1), .val (.int p2), .val (.int p3)] [(.int (1 : Int32)), (.int p1)])) _
        refine XS.icmpYes X0.here hx rfl (pc0 := 17) (pc' := 35) rfl (hb hby d1_17) rfl (feq hc1).2 (by decide) (by decide) ?_
        show Steps p.tables e below (s₁.setTop (mkF m 35 #[.val (.int p1), .val (.int p2), .val (.int p3)] [])) _
        refine st143 _ ?_
        show Steps p.tables e below (T143.setTop (mkF m 38 #[.val (.int p1), .val (.int p2), .val (.int p3)] [(.ref x)])) _
        refine XS.dup X143.here hx rfl (hb hby d1_38) rfl rfl ?_
        show Steps p.tables e below (T143.setTop (mkF m 39 #[.val (.int p1), .val (.int p2), .val (.int p3)] [(.ref x), (.ref x)])) _
        refine XS.iconst X143.here hx rfl (hb hby d1_39) ?_
        show Steps p.tables e below (T143.setTop (mkF m 40 #[.val (.int p1), .val (.int p2), .val (.int p3)] [(.int (2 : Int32)), (.ref x), (.ref x)])) _
        refine st147 _ ?_
        show Steps p.tables e below (T147.setTop (mkF m 42 #[.val (.int p1), .val (.int p2), .val (.int p3)] [(.ref ch), (.ref x), (.ref x)])) _
        refine XS.dup X147.here hx rfl (hb hby d1_42) rfl rfl ?_
        show Steps p.tables e below (T147.setTop (mkF m 43 #[.val (.int p1), .val (.int p2), .val (.int p3)] [(.ref ch), (.ref ch), (.ref x), (.ref x)])) _
        refine XS.iconst X147.here hx rfl (hb hby d1_43) ?_
        show Steps p.tables e below (T147.setTop (mkF m 44 #[.val (.int p1), .val (.int p2), .val (.int p3)] [(.int (0 : Int32)), (.ref ch), (.ref ch), (.ref x), (.ref x)])) _
        refine XS.iloadN X147.here hx rfl (hb hby d1_44) rfl ?_
        show Steps p.tables e below (T147.setTop (mkF m 45 #[.val (.int p1), .val (.int p2), .val (.int p3)] [(.int p2), (.int (0 : Int32)), (.ref ch), (.ref ch), (.ref x), (.ref x)])) _
        refine st156 _ ?_
        show Steps p.tables e below (T156.setTop (mkF m 46 #[.val (.int p1), .val (.int p2), .val (.int p3)] [(.ref ch), (.ref x), (.ref x)])) _
        refine XS.dup X156.here hx rfl (hb hby d1_46) rfl rfl ?_
        show Steps p.tables e below (T156.setTop (mkF m 47 #[.val (.int p1), .val (.int p2), .val (.int p3)] [(.ref ch), (.ref ch), (.ref x), (.ref x)])) _
        refine XS.iconst X156.here hx rfl (hb hby d1_47) ?_
        show Steps p.tables e below (T156.setTop (mkF m 48 #[.val (.int p1), .val (.int p2), .val (.int p3)] [(.int (1 : Int32)), (.ref ch), (.ref ch), (.ref x), (.ref x)])) _
        refine XS.iloadN X156.here hx rfl (hb hby d1_48) rfl ?_
        show Steps p.tables e below (T156.setTop (mkF m 49 #[.val (.int p1), .val (.int p2), .val (.int p3)] [(.int p3), (.int (1 : Int32)), (.ref ch), (.ref ch), (.ref x), (.ref x)])) _
        refine st165 _ ?_
        show Steps p.tables e below (T165.setTop (mkF m 50 #[.val (.int p1), .val (.int p2), .val (.int p3)] [(.ref ch), (.ref x), (.ref x)])) _
        refine st173.trans ?_
        exact k_)
      obtain ⟨fs, hr, hrun, hended, hW, hsame⟩ := X173.leave (v := some (.ref x)) (fun h => by rw [Bd.returns] at h; cases h)
      refine ⟨_, _, pre175 _ ?_, hrun, hended, _, _, rfl, ?_, (by show CHr Z own_EL s.vm s.heap T173.vm T173.heap; rw [hh]; exact (CHr.keep K_x (fun _ q => nomatch q) hH).trans (CHv.at (s := s) (vm0 := s.vm) X173 hZ (own_EW hw) (CHr.keep K_x (fun _ q => nomatch q) hH).1)), ReturnedEndW.of_narrow ⟨_, rfl⟩ hW (hsame.mono (by decide) (by decide))⟩
      · show Steps p.tables e below (T173.setTop (mkF m 53 #[.val (.int p1), .val (.int p2), .val (.int p3)] [(.ref x)])) _
        jvm_step X173.here [X173.here.top, hx, (hb hby d1_53), X173.method', Bd.returns, Value.isRef, FieldType.isReference]
        first | (intro acts; rw [hr _ acts rfl rfl rfl]) | rw [hr _ _ rfl rfl rfl]
        exact Steps.refl _
      · show QrmStr Z p1 p2 p3 zc h0 n0 _ T173.heap _
        exact ⟨x, rfl, N173, K_x, by rw [own_cs, if_neg hc0, if_neg hc1]; exact Str_x, Nat.le_of_eq eq_x.symm⟩
theorem d9_0 : decode method_3_code 0 = .ok (.iload_n 0, 1) := by decide +kernel
theorem d9_1 : decode method_3_code 1 = .ok (.iload_n 3, 1) := by decide +kernel
theorem d9_2 : decode method_3_code 2 = .ok (.if_icmp .eq 5, 3) := by decide +kernel
theorem d9_5 : decode method_3_code 5 = .ok (.iconst 0, 1) := by decide +kernel
theorem d9_6 : decode method_3_code 6 = .ok (.ireturn, 1) := by decide +kernel
theorem d9_7 : decode method_3_code 7 = .ok (.iload_n 0, 1) := by decide +kernel
theorem d9_8 : decode method_3_code 8 = .ok (.iconst 1, 1) := by decide +kernel
theorem d9_9 : decode method_3_code 9 = .ok (.if_icmp .lt 11, 3) := by decide +kernel
theorem d9_12 : decode method_3_code 12 = .ok (.iload_n 1, 1) := by decide +kernel
theorem d9_13 : decode method_3_code 13 = .ok (.iload 4, 2) := by decide +kernel
theorem d9_15 : decode method_3_code 15 = .ok (.if_icmp .eq 5, 3) := by decide +kernel
theorem d9_18 : decode method_3_code 18 = .ok (.iconst 0, 1) := by decide +kernel
theorem d9_19 : decode method_3_code 19 = .ok (.ireturn, 1) := by decide +kernel
theorem d9_20 : decode method_3_code 20 = .ok (.iload_n 0, 1) := by decide +kernel
theorem d9_21 : decode method_3_code 21 = .ok (.iconst 2, 1) := by decide +kernel
theorem d9_22 : decode method_3_code 22 = .ok (.if_icmp .lt 11, 3) := by decide +kernel
theorem d9_25 : decode method_3_code 25 = .ok (.iload_n 2, 1) := by decide +kernel
theorem d9_26 : decode method_3_code 26 = .ok (.iload 5, 2) := by decide +kernel
theorem d9_28 : decode method_3_code 28 = .ok (.if_icmp .eq 5, 3) := by decide +kernel
theorem d9_31 : decode method_3_code 31 = .ok (.iconst 0, 1) := by decide +kernel
theorem d9_32 : decode method_3_code 32 = .ok (.ireturn, 1) := by decide +kernel
theorem d9_33 : decode method_3_code 33 = .ok (.iconst 1, 1) := by decide +kernel
theorem d9_34 : decode method_3_code 34 = .ok (.ireturn, 1) := by decide +kernel
theorem ef_rmSame (m : MethodId) (x0 : Int32) (x1 : Int32) (x2 : Int32) (x3 : Int32) (x4 : Int32) (x5 : Int32) : entryFrame m #[(.int x0), (.int x1), (.int x2), (.int x3), (.int x4), (.int x5)] 6 = mkF m 0 #[.val (.int x0), .val (.int x1), .val (.int x2), .val (.int x3), .val (.int x4), .val (.int x5)] [] := by first | (simp [entryFrame, mkF, argsToLocals, Value.category]; done) | rfl
def QrmSame (Z : State) (p1 : Int32) (p2 : Int32) (p3 : Int32) (p4 : Int32) (p5 : Int32) (p6 : Int32) (h0 : Heap) (n0 : Nat) (v : Option Value) (h : Heap) (L : List Loc) : Prop := v = some (.int (if own_cs p1 p2 p3 = own_cs p4 p5 p6 then 1 else 0)) ∧ Fr n0 L ∧ h = h0
set_option maxRecDepth 65536 in
set_option maxHeartbeats 40000000 in
theorem rmSame (l : Launch) (Z : State) (a0 : Array Value) (hw : ∀ d ∈ tables_1, d.before a0 Z = true) (ws : List Jvm.Cond) (p1 : Int32) (p2 : Int32) (p3 : Int32) (p4 : Int32) (p5 : Int32) (p6 : Int32) (h0 : Heap) (n0 : Nat) (Z0 : n0 ≤ h0.size) (h1 : own_l3 p1) (h4 : own_l3 p4) :
    MetFree l (⟨"com/example/cranfield/cranfield/model/TopicEqualsPinLaw", "same", "(ICCICC)Z"⟩ : MethodName) (head1 (Jvm.Cond.code (⟨"com/example/cranfield/cranfield/model/TopicEqualsPinLaw", "same", "(ICCICC)Z"⟩ : MethodName) method_3_code 6 (some .boolean) :: ws) ({ frames := 0, cells := 0, slots := 0, locals := 0 } : Room)) (fun a U => a = #[(.int p1), (.int p2), (.int p3), (.int p4), (.int p5), (.int p6)] ∧ Z.Warmed39 U.vm ∧ U.heap = h0) (fun _ _ _ _ _ => True) (fun _ U o U' => ∃ v L, o = .returned v ∧ QrmSame Z p1 p2 p3 p4 p5 p6 h0 n0 v U'.heap L ∧ FrameEnd U o U' L ({ frames := 0, cells := 0, slots := 0, locals := 0 } : Room).cells ({ frames := 0, cells := 0, slots := 0, locals := 0 } : Room).slots) := by
  refine MetFree.of_bodySF (plainFor_of_name pn_1) hisR ?_
  intro p e s m args below meth c s₁ Bd hml0 hP hK
  obtain ⟨rfl, hZ, hh⟩ := hP
  have hx := Bd.exec
  have hby := Bd.bytes
  have hml : c.maxLocals = 6 := hml0
  have hown : s.vm.findClass "com/example/cranfield/cranfield/model/TopicEqualsPinLaw" = some m.cls := findClass_of_methodNamed Bd.named
  have hnm := (name_of_methodNamed Bd.named Bd.method).1
  have X0 : Stand p l e ({ frames := 0, cells := 0, slots := 0, locals := 0 } : Room) s m #[(.int p1), (.int p2), (.int p3), (.int p4), (.int p5), (.int p6)] below meth c s₁ [] 0 0 := Stand.of_body Bd
  have e0 : s₁.heap = h0 := by rw [← hh, Bd.state]; rfl
  have N0 := Fr.nil n0
  have pre0 : ∀ t_, Steps p.tables e below (s₁.setTop (mkF m 0 #[.val (.int p1), .val (.int p2), .val (.int p3), .val (.int p4), .val (.int p5), .val (.int p6)] [])) t_ → Steps p.tables e below (s₁.setTop (entryFrame m #[(.int p1), (.int p2), (.int p3), (.int p4), (.int p5), (.int p6)] 6)) t_ := fun t_ k_ => castTop (ef_rmSame m p1 p2 p3 p4 p5 p6) k_
  have pre101 : ∀ t_, Steps p.tables e below (s₁.setTop (mkF m 2 #[.val (.int p1), .val (.int p2), .val (.int p3), .val (.int p4), .val (.int p5), .val (.int p6)] [(.int p4), (.int p1)])) t_ → Steps p.tables e below (s₁.setTop (entryFrame m #[(.int p1), (.int p2), (.int p3), (.int p4), (.int p5), (.int p6)] 6)) t_ := fun t_ k_ => pre0 _ (by
    show Steps p.tables e below (s₁.setTop (mkF m 0 #[.val (.int p1), .val (.int p2), .val (.int p3), .val (.int p4), .val (.int p5), .val (.int p6)] [])) _
    refine XS.iloadN X0.here hx rfl (hb hby d9_0) rfl ?_
    show Steps p.tables e below (s₁.setTop (mkF m 1 #[.val (.int p1), .val (.int p2), .val (.int p3), .val (.int p4), .val (.int p5), .val (.int p6)] [(.int p1)])) _
    refine XS.iloadN X0.here hx rfl (hb hby d9_1) rfl ?_
    exact k_)
  by_cases he : p1 = p4
  · skip
    have pre102 : ∀ t_, Steps p.tables e below (s₁.setTop (mkF m 9 #[.val (.int p1), .val (.int p2), .val (.int p3), .val (.int p4), .val (.int p5), .val (.int p6)] [(.int (1 : Int32)), (.int p1)])) t_ → Steps p.tables e below (s₁.setTop (entryFrame m #[(.int p1), (.int p2), (.int p3), (.int p4), (.int p5), (.int p6)] 6)) t_ := fun t_ k_ => pre101 _ (by
      show Steps p.tables e below (s₁.setTop (mkF m 2 #[.val (.int p1), .val (.int p2), .val (.int p3), .val (.int p4), .val (.int p5), .val (.int p6)] [(.int p4), (.int p1)])) _
      refine XS.icmpYes X0.here hx rfl (pc0 := 2) (pc' := 7) rfl (hb hby d9_2) rfl (teq he).1 (by decide) (by decide) ?_
      show Steps p.tables e below (s₁.setTop (mkF m 7 #[.val (.int p1), .val (.int p2), .val (.int p3), .val (.int p4), .val (.int p5), .val (.int p6)] [])) _
      refine XS.iloadN X0.here hx rfl (hb hby d9_7) rfl ?_
      show Steps p.tables e below (s₁.setTop (mkF m 8 #[.val (.int p1), .val (.int p2), .val (.int p3), .val (.int p4), .val (.int p5), .val (.int p6)] [(.int p1)])) _
      refine XS.iconst X0.here hx rfl (hb hby d9_8) ?_
      exact k_)
    by_cases hl1 : p1 < (1 : Int32)
    · skip
      have pre103 : ∀ t_, Steps p.tables e below (s₁.setTop (mkF m 34 #[.val (.int p1), .val (.int p2), .val (.int p3), .val (.int p4), .val (.int p5), .val (.int p6)] [(.int (1 : Int32))])) t_ → Steps p.tables e below (s₁.setTop (entryFrame m #[(.int p1), (.int p2), (.int p3), (.int p4), (.int p5), (.int p6)] 6)) t_ := fun t_ k_ => pre102 _ (by
        show Steps p.tables e below (s₁.setTop (mkF m 9 #[.val (.int p1), .val (.int p2), .val (.int p3), .val (.int p4), .val (.int p5), .val (.int p6)] [(.int (1 : Int32)), (.int p1)])) _
        refine XS.icmpYes X0.here hx rfl (pc0 := 9) (pc' := 20) rfl (hb hby d9_9) rfl (tlt hl1).1 (by decide) (by decide) ?_
        show Steps p.tables e below (s₁.setTop (mkF m 20 #[.val (.int p1), .val (.int p2), .val (.int p3), .val (.int p4), .val (.int p5), .val (.int p6)] [])) _
        refine XS.iloadN X0.here hx rfl (hb hby d9_20) rfl ?_
        show Steps p.tables e below (s₁.setTop (mkF m 21 #[.val (.int p1), .val (.int p2), .val (.int p3), .val (.int p4), .val (.int p5), .val (.int p6)] [(.int p1)])) _
        refine XS.iconst X0.here hx rfl (hb hby d9_21) ?_
        show Steps p.tables e below (s₁.setTop (mkF m 22 #[.val (.int p1), .val (.int p2), .val (.int p3), .val (.int p4), .val (.int p5), .val (.int p6)] [(.int (2 : Int32)), (.int p1)])) _
        refine XS.icmpYes X0.here hx rfl (pc0 := 22) (pc' := 33) rfl (hb hby d9_22) rfl (tlt (Int32.lt_trans hl1 (by decide))).1 (by decide) (by decide) ?_
        show Steps p.tables e below (s₁.setTop (mkF m 33 #[.val (.int p1), .val (.int p2), .val (.int p3), .val (.int p4), .val (.int p5), .val (.int p6)] [])) _
        refine XS.iconst X0.here hx rfl (hb hby d9_33) ?_
        exact k_)
      obtain ⟨fs, hr, hrun, hended, hW, hsame⟩ := X0.leave (v := some (.int (1 : Int32))) (fun h => by rw [Bd.returns] at h; cases h)
      refine ⟨_, _, pre103 _ ?_, hrun, hended, _, _, rfl, ?_, ⟨_, rfl⟩, hW, hsame.mono (by decide) (by decide)⟩
      · show Steps p.tables e below (s₁.setTop (mkF m 34 #[.val (.int p1), .val (.int p2), .val (.int p3), .val (.int p4), .val (.int p5), .val (.int p6)] [(.int (1 : Int32))])) _
        exact retN X0 hx (t := .boolean) Bd.returns (by simp) (hb hby d9_34) hr
      · show QrmSame Z p1 p2 p3 p4 p5 p6 h0 n0 _ s₁.heap _
        rw [e0]
        exact ⟨by rw [if_pos (own_sm2 h1 he hl1)], N0, rfl⟩
    · skip
      have pre104 : ∀ t_, Steps p.tables e below (s₁.setTop (mkF m 15 #[.val (.int p1), .val (.int p2), .val (.int p3), .val (.int p4), .val (.int p5), .val (.int p6)] [(.int p5), (.int p2)])) t_ → Steps p.tables e below (s₁.setTop (entryFrame m #[(.int p1), (.int p2), (.int p3), (.int p4), (.int p5), (.int p6)] 6)) t_ := fun t_ k_ => pre102 _ (by
        show Steps p.tables e below (s₁.setTop (mkF m 9 #[.val (.int p1), .val (.int p2), .val (.int p3), .val (.int p4), .val (.int p5), .val (.int p6)] [(.int (1 : Int32)), (.int p1)])) _
        refine XS.icmpNo X0.here hx rfl (hb hby d9_9) rfl (flt hl1).1 ?_
        show Steps p.tables e below (s₁.setTop (mkF m 12 #[.val (.int p1), .val (.int p2), .val (.int p3), .val (.int p4), .val (.int p5), .val (.int p6)] [])) _
        refine XS.iloadN X0.here hx rfl (hb hby d9_12) rfl ?_
        show Steps p.tables e below (s₁.setTop (mkF m 13 #[.val (.int p1), .val (.int p2), .val (.int p3), .val (.int p4), .val (.int p5), .val (.int p6)] [(.int p2)])) _
        refine XS.iload X0.here hx rfl (hb hby d9_13) rfl ?_
        exact k_)
      by_cases h25 : p2 = p5
      · skip
        have pre105 : ∀ t_, Steps p.tables e below (s₁.setTop (mkF m 22 #[.val (.int p1), .val (.int p2), .val (.int p3), .val (.int p4), .val (.int p5), .val (.int p6)] [(.int (2 : Int32)), (.int p1)])) t_ → Steps p.tables e below (s₁.setTop (entryFrame m #[(.int p1), (.int p2), (.int p3), (.int p4), (.int p5), (.int p6)] 6)) t_ := fun t_ k_ => pre104 _ (by
          show Steps p.tables e below (s₁.setTop (mkF m 15 #[.val (.int p1), .val (.int p2), .val (.int p3), .val (.int p4), .val (.int p5), .val (.int p6)] [(.int p5), (.int p2)])) _
          refine XS.icmpYes X0.here hx rfl (pc0 := 15) (pc' := 20) rfl (hb hby d9_15) rfl (teq h25).1 (by decide) (by decide) ?_
          show Steps p.tables e below (s₁.setTop (mkF m 20 #[.val (.int p1), .val (.int p2), .val (.int p3), .val (.int p4), .val (.int p5), .val (.int p6)] [])) _
          refine XS.iloadN X0.here hx rfl (hb hby d9_20) rfl ?_
          show Steps p.tables e below (s₁.setTop (mkF m 21 #[.val (.int p1), .val (.int p2), .val (.int p3), .val (.int p4), .val (.int p5), .val (.int p6)] [(.int p1)])) _
          refine XS.iconst X0.here hx rfl (hb hby d9_21) ?_
          exact k_)
        by_cases hl2 : p1 < (2 : Int32)
        · skip
          have pre106 : ∀ t_, Steps p.tables e below (s₁.setTop (mkF m 34 #[.val (.int p1), .val (.int p2), .val (.int p3), .val (.int p4), .val (.int p5), .val (.int p6)] [(.int (1 : Int32))])) t_ → Steps p.tables e below (s₁.setTop (entryFrame m #[(.int p1), (.int p2), (.int p3), (.int p4), (.int p5), (.int p6)] 6)) t_ := fun t_ k_ => pre105 _ (by
            show Steps p.tables e below (s₁.setTop (mkF m 22 #[.val (.int p1), .val (.int p2), .val (.int p3), .val (.int p4), .val (.int p5), .val (.int p6)] [(.int (2 : Int32)), (.int p1)])) _
            refine XS.icmpYes X0.here hx rfl (pc0 := 22) (pc' := 33) rfl (hb hby d9_22) rfl (tlt hl2).1 (by decide) (by decide) ?_
            show Steps p.tables e below (s₁.setTop (mkF m 33 #[.val (.int p1), .val (.int p2), .val (.int p3), .val (.int p4), .val (.int p5), .val (.int p6)] [])) _
            refine XS.iconst X0.here hx rfl (hb hby d9_33) ?_
            exact k_)
          obtain ⟨fs, hr, hrun, hended, hW, hsame⟩ := X0.leave (v := some (.int (1 : Int32))) (fun h => by rw [Bd.returns] at h; cases h)
          refine ⟨_, _, pre106 _ ?_, hrun, hended, _, _, rfl, ?_, ⟨_, rfl⟩, hW, hsame.mono (by decide) (by decide)⟩
          · show Steps p.tables e below (s₁.setTop (mkF m 34 #[.val (.int p1), .val (.int p2), .val (.int p3), .val (.int p4), .val (.int p5), .val (.int p6)] [(.int (1 : Int32))])) _
            exact retN X0 hx (t := .boolean) Bd.returns (by simp) (hb hby d9_34) hr
          · show QrmSame Z p1 p2 p3 p4 p5 p6 h0 n0 _ s₁.heap _
            rw [e0]
            exact ⟨by rw [if_pos (own_sm4 h1 he hl1 hl2 h25)], N0, rfl⟩
        · skip
          have pre107 : ∀ t_, Steps p.tables e below (s₁.setTop (mkF m 28 #[.val (.int p1), .val (.int p2), .val (.int p3), .val (.int p4), .val (.int p5), .val (.int p6)] [(.int p6), (.int p3)])) t_ → Steps p.tables e below (s₁.setTop (entryFrame m #[(.int p1), (.int p2), (.int p3), (.int p4), (.int p5), (.int p6)] 6)) t_ := fun t_ k_ => pre105 _ (by
            show Steps p.tables e below (s₁.setTop (mkF m 22 #[.val (.int p1), .val (.int p2), .val (.int p3), .val (.int p4), .val (.int p5), .val (.int p6)] [(.int (2 : Int32)), (.int p1)])) _
            refine XS.icmpNo X0.here hx rfl (hb hby d9_22) rfl (flt hl2).1 ?_
            show Steps p.tables e below (s₁.setTop (mkF m 25 #[.val (.int p1), .val (.int p2), .val (.int p3), .val (.int p4), .val (.int p5), .val (.int p6)] [])) _
            refine XS.iloadN X0.here hx rfl (hb hby d9_25) rfl ?_
            show Steps p.tables e below (s₁.setTop (mkF m 26 #[.val (.int p1), .val (.int p2), .val (.int p3), .val (.int p4), .val (.int p5), .val (.int p6)] [(.int p3)])) _
            refine XS.iload X0.here hx rfl (hb hby d9_26) rfl ?_
            exact k_)
          by_cases h36 : p3 = p6
          · skip
            have pre108 : ∀ t_, Steps p.tables e below (s₁.setTop (mkF m 34 #[.val (.int p1), .val (.int p2), .val (.int p3), .val (.int p4), .val (.int p5), .val (.int p6)] [(.int (1 : Int32))])) t_ → Steps p.tables e below (s₁.setTop (entryFrame m #[(.int p1), (.int p2), (.int p3), (.int p4), (.int p5), (.int p6)] 6)) t_ := fun t_ k_ => pre107 _ (by
              show Steps p.tables e below (s₁.setTop (mkF m 28 #[.val (.int p1), .val (.int p2), .val (.int p3), .val (.int p4), .val (.int p5), .val (.int p6)] [(.int p6), (.int p3)])) _
              refine XS.icmpYes X0.here hx rfl (pc0 := 28) (pc' := 33) rfl (hb hby d9_28) rfl (teq h36).1 (by decide) (by decide) ?_
              show Steps p.tables e below (s₁.setTop (mkF m 33 #[.val (.int p1), .val (.int p2), .val (.int p3), .val (.int p4), .val (.int p5), .val (.int p6)] [])) _
              refine XS.iconst X0.here hx rfl (hb hby d9_33) ?_
              exact k_)
            obtain ⟨fs, hr, hrun, hended, hW, hsame⟩ := X0.leave (v := some (.int (1 : Int32))) (fun h => by rw [Bd.returns] at h; cases h)
            refine ⟨_, _, pre108 _ ?_, hrun, hended, _, _, rfl, ?_, ⟨_, rfl⟩, hW, hsame.mono (by decide) (by decide)⟩
            · show Steps p.tables e below (s₁.setTop (mkF m 34 #[.val (.int p1), .val (.int p2), .val (.int p3), .val (.int p4), .val (.int p5), .val (.int p6)] [(.int (1 : Int32))])) _
              exact retN X0 hx (t := .boolean) Bd.returns (by simp) (hb hby d9_34) hr
            · show QrmSame Z p1 p2 p3 p4 p5 p6 h0 n0 _ s₁.heap _
              rw [e0]
              exact ⟨by rw [if_pos (own_sm6 he h25 h36)], N0, rfl⟩
          · skip
            have pre109 : ∀ t_, Steps p.tables e below (s₁.setTop (mkF m 32 #[.val (.int p1), .val (.int p2), .val (.int p3), .val (.int p4), .val (.int p5), .val (.int p6)] [(.int (0 : Int32))])) t_ → Steps p.tables e below (s₁.setTop (entryFrame m #[(.int p1), (.int p2), (.int p3), (.int p4), (.int p5), (.int p6)] 6)) t_ := fun t_ k_ => pre107 _ (by
              show Steps p.tables e below (s₁.setTop (mkF m 28 #[.val (.int p1), .val (.int p2), .val (.int p3), .val (.int p4), .val (.int p5), .val (.int p6)] [(.int p6), (.int p3)])) _
              refine XS.icmpNo X0.here hx rfl (hb hby d9_28) rfl (feq h36).1 ?_
              show Steps p.tables e below (s₁.setTop (mkF m 31 #[.val (.int p1), .val (.int p2), .val (.int p3), .val (.int p4), .val (.int p5), .val (.int p6)] [])) _
              refine XS.iconst X0.here hx rfl (hb hby d9_31) ?_
              exact k_)
            obtain ⟨fs, hr, hrun, hended, hW, hsame⟩ := X0.leave (v := some (.int (0 : Int32))) (fun h => by rw [Bd.returns] at h; cases h)
            refine ⟨_, _, pre109 _ ?_, hrun, hended, _, _, rfl, ?_, ⟨_, rfl⟩, hW, hsame.mono (by decide) (by decide)⟩
            · show Steps p.tables e below (s₁.setTop (mkF m 32 #[.val (.int p1), .val (.int p2), .val (.int p3), .val (.int p4), .val (.int p5), .val (.int p6)] [(.int (0 : Int32))])) _
              exact retN X0 hx (t := .boolean) Bd.returns (by simp) (hb hby d9_32) hr
            · show QrmSame Z p1 p2 p3 p4 p5 p6 h0 n0 _ s₁.heap _
              rw [e0]
              exact ⟨by rw [if_neg (own_sm5 h1 he hl2 h36)], N0, rfl⟩
      · skip
        have pre110 : ∀ t_, Steps p.tables e below (s₁.setTop (mkF m 19 #[.val (.int p1), .val (.int p2), .val (.int p3), .val (.int p4), .val (.int p5), .val (.int p6)] [(.int (0 : Int32))])) t_ → Steps p.tables e below (s₁.setTop (entryFrame m #[(.int p1), (.int p2), (.int p3), (.int p4), (.int p5), (.int p6)] 6)) t_ := fun t_ k_ => pre104 _ (by
          show Steps p.tables e below (s₁.setTop (mkF m 15 #[.val (.int p1), .val (.int p2), .val (.int p3), .val (.int p4), .val (.int p5), .val (.int p6)] [(.int p5), (.int p2)])) _
          refine XS.icmpNo X0.here hx rfl (hb hby d9_15) rfl (feq h25).1 ?_
          show Steps p.tables e below (s₁.setTop (mkF m 18 #[.val (.int p1), .val (.int p2), .val (.int p3), .val (.int p4), .val (.int p5), .val (.int p6)] [])) _
          refine XS.iconst X0.here hx rfl (hb hby d9_18) ?_
          exact k_)
        obtain ⟨fs, hr, hrun, hended, hW, hsame⟩ := X0.leave (v := some (.int (0 : Int32))) (fun h => by rw [Bd.returns] at h; cases h)
        refine ⟨_, _, pre110 _ ?_, hrun, hended, _, _, rfl, ?_, ⟨_, rfl⟩, hW, hsame.mono (by decide) (by decide)⟩
        · show Steps p.tables e below (s₁.setTop (mkF m 19 #[.val (.int p1), .val (.int p2), .val (.int p3), .val (.int p4), .val (.int p5), .val (.int p6)] [(.int (0 : Int32))])) _
          exact retN X0 hx (t := .boolean) Bd.returns (by simp) (hb hby d9_19) hr
        · show QrmSame Z p1 p2 p3 p4 p5 p6 h0 n0 _ s₁.heap _
          rw [e0]
          exact ⟨by rw [if_neg (own_sm3 h1 he hl1 h25)], N0, rfl⟩
  · skip
    have pre111 : ∀ t_, Steps p.tables e below (s₁.setTop (mkF m 6 #[.val (.int p1), .val (.int p2), .val (.int p3), .val (.int p4), .val (.int p5), .val (.int p6)] [(.int (0 : Int32))])) t_ → Steps p.tables e below (s₁.setTop (entryFrame m #[(.int p1), (.int p2), (.int p3), (.int p4), (.int p5), (.int p6)] 6)) t_ := fun t_ k_ => pre101 _ (by
      show Steps p.tables e below (s₁.setTop (mkF m 2 #[.val (.int p1), .val (.int p2), .val (.int p3), .val (.int p4), .val (.int p5), .val (.int p6)] [(.int p4), (.int p1)])) _
      refine XS.icmpNo X0.here hx rfl (hb hby d9_2) rfl (feq he).1 ?_
      show Steps p.tables e below (s₁.setTop (mkF m 5 #[.val (.int p1), .val (.int p2), .val (.int p3), .val (.int p4), .val (.int p5), .val (.int p6)] [])) _
      refine XS.iconst X0.here hx rfl (hb hby d9_5) ?_
      exact k_)
    obtain ⟨fs, hr, hrun, hended, hW, hsame⟩ := X0.leave (v := some (.int (0 : Int32))) (fun h => by rw [Bd.returns] at h; cases h)
    refine ⟨_, _, pre111 _ ?_, hrun, hended, _, _, rfl, ?_, ⟨_, rfl⟩, hW, hsame.mono (by decide) (by decide)⟩
    · show Steps p.tables e below (s₁.setTop (mkF m 6 #[.val (.int p1), .val (.int p2), .val (.int p3), .val (.int p4), .val (.int p5), .val (.int p6)] [(.int (0 : Int32))])) _
      exact retN X0 hx (t := .boolean) Bd.returns (by simp) (hb hby d9_6) hr
    · show QrmSame Z p1 p2 p3 p4 p5 p6 h0 n0 _ s₁.heap _
      rw [e0]
      exact ⟨by rw [if_neg (own_sm1 h1 h4 he)], N0, rfl⟩
theorem d6_0 : decode jdk_31_method_11_code 0 = .ok (.aload_n 0, 1) := by decide +kernel
theorem d6_1 : decode jdk_31_method_11_code 1 = .ok (.ifnonnull 12, 3) := by decide +kernel
theorem d6_13 : decode jdk_31_method_11_code 13 = .ok (.aload_n 0, 1) := by decide +kernel
theorem d6_14 : decode jdk_31_method_11_code 14 = .ok (.areturn, 1) := by decide +kernel
theorem pn_2 : plainName "java/util/Objects" = true := by first | (simp [plainName, overriddenIn]; done) | decide +kernel
theorem ef_rmQ (m : MethodId) (x0 : Addr) (x1 : Addr) : entryFrame m #[(.ref x0), (.ref x1)] 2 = mkF m 0 #[.val (.ref x0), .val (.ref x1)] [] := by first | (simp [entryFrame, mkF, argsToLocals, Value.category]; done) | rfl
def QrmQ (Z : State) (a1 : Addr) (a2 : Addr) (h0 : Heap) (n0 : Nat) (v : Option Value) (h : Heap) (L : List Loc) : Prop := v = some (.ref a1) ∧ Fr n0 L ∧ h = h0
set_option maxRecDepth 65536 in
set_option maxHeartbeats 40000000 in
theorem rmQ (l : Launch) (Z : State) (a0 : Array Value) (hw : ∀ d ∈ tables_1, d.before a0 Z = true) (ws : List Jvm.Cond) (a1 : Addr) (a2 : Addr) (h0 : Heap) (n0 : Nat) (Z0 : n0 ≤ h0.size) :
    MetFree l (⟨"java/util/Objects", "requireNonNull", "(Ljava/lang/Object;Ljava/lang/String;)Ljava/lang/Object;"⟩ : MethodName) (head1 (Jvm.Cond.code (⟨"java/util/Objects", "requireNonNull", "(Ljava/lang/Object;Ljava/lang/String;)Ljava/lang/Object;"⟩ : MethodName) jdk_31_method_11_code 2 (some (.object "java/lang/Object")) :: ws) ({ frames := 0, cells := 0, slots := 0, locals := 0 } : Room)) (fun a U => a = #[(.ref a1), (.ref a2)] ∧ Z.Warmed39 U.vm ∧ U.heap = h0) (fun _ _ _ _ _ => True) (fun _ U o U' => ∃ v L, o = .returned v ∧ QrmQ Z a1 a2 h0 n0 v U'.heap L ∧ FrameEnd U o U' L ({ frames := 0, cells := 0, slots := 0, locals := 0 } : Room).cells ({ frames := 0, cells := 0, slots := 0, locals := 0 } : Room).slots) := by
  refine MetFree.of_bodySF (plainFor_of_name pn_2) hisR ?_
  intro p e s m args below meth c s₁ Bd hml0 hP hK
  obtain ⟨rfl, hZ, hh⟩ := hP
  have hx := Bd.exec
  have hby := Bd.bytes
  have hml : c.maxLocals = 2 := hml0
  have hown : s.vm.findClass "java/util/Objects" = some m.cls := findClass_of_methodNamed Bd.named
  have hnm := (name_of_methodNamed Bd.named Bd.method).1
  have X0 : Stand p l e ({ frames := 0, cells := 0, slots := 0, locals := 0 } : Room) s m #[(.ref a1), (.ref a2)] below meth c s₁ [] 0 0 := Stand.of_body Bd
  have e0 : s₁.heap = h0 := by rw [← hh, Bd.state]; rfl
  have N0 := Fr.nil n0
  have pre0 : ∀ t_, Steps p.tables e below (s₁.setTop (mkF m 0 #[.val (.ref a1), .val (.ref a2)] [])) t_ → Steps p.tables e below (s₁.setTop (entryFrame m #[(.ref a1), (.ref a2)] 2)) t_ := fun t_ k_ => castTop (ef_rmQ m a1 a2) k_
  have pre101 : ∀ t_, Steps p.tables e below (s₁.setTop (mkF m 14 #[.val (.ref a1), .val (.ref a2)] [(.ref a1)])) t_ → Steps p.tables e below (s₁.setTop (entryFrame m #[(.ref a1), (.ref a2)] 2)) t_ := fun t_ k_ => pre0 _ (by
    show Steps p.tables e below (s₁.setTop (mkF m 0 #[.val (.ref a1), .val (.ref a2)] [])) _
    refine XS.aloadN X0.here hx rfl (hb hby d6_0) rfl rfl ?_
    show Steps p.tables e below (s₁.setTop (mkF m 1 #[.val (.ref a1), .val (.ref a2)] [(.ref a1)])) _
    refine XS.ifnonnullYes X0.here hx rfl (pc0 := 1) (pc' := 13) rfl (hb hby d6_1) rfl (by decide) (by decide) ?_
    show Steps p.tables e below (s₁.setTop (mkF m 13 #[.val (.ref a1), .val (.ref a2)] [])) _
    refine XS.aloadN X0.here hx rfl (hb hby d6_13) rfl rfl ?_
    exact k_)
  obtain ⟨fs, hr, hrun, hended, hW, hsame⟩ := X0.leave (v := some (.ref a1)) (fun h => by rw [Bd.returns] at h; cases h)
  refine ⟨_, _, pre101 _ ?_, hrun, hended, _, _, rfl, ?_, ⟨_, rfl⟩, hW, hsame.mono (by decide) (by decide)⟩
  · show Steps p.tables e below (s₁.setTop (mkF m 14 #[.val (.ref a1), .val (.ref a2)] [(.ref a1)])) _
    jvm_step X0.here [X0.here.top, hx, (hb hby d6_14), X0.method', Bd.returns, Value.isRef, FieldType.isReference]
    first | (intro acts; rw [hr _ acts rfl rfl rfl]) | rw [hr _ _ rfl rfl rfl]
    exact Steps.refl _
  · show QrmQ Z a1 a2 h0 n0 _ s₁.heap _
    rw [e0]
    exact ⟨rfl, N0, rfl⟩
theorem pd_2 : parseMethodDescriptor "(Ljava/lang/Object;Ljava/lang/String;)Ljava/lang/Object;" = some ⟨[(.object "java/lang/Object"), (.object "java/lang/String")], some (.object "java/lang/Object")⟩ := by decide +kernel
theorem d5_0 : decode prog_62_method_1_code 0 = .ok (.aload_n 0, 1) := by decide +kernel
theorem d5_1 : decode prog_62_method_1_code 1 = .ok (.invokespecial 1, 3) := by decide +kernel
theorem d5_4 : decode prog_62_method_1_code 4 = .ok (.aload_n 0, 1) := by decide +kernel
theorem d5_5 : decode prog_62_method_1_code 5 = .ok (.aload_n 1, 1) := by decide +kernel
theorem d5_6 : decode prog_62_method_1_code 6 = .ok (.ldc 7, 2) := by decide +kernel
theorem d5_8 : decode prog_62_method_1_code 8 = .ok (.invokestatic 9, 3) := by decide +kernel
theorem d5_11 : decode prog_62_method_1_code 11 = .ok (.checkcast 15, 3) := by decide +kernel
theorem d5_14 : decode prog_62_method_1_code 14 = .ok (.putfield 17, 3) := by decide +kernel
theorem d5_17 : decode prog_62_method_1_code 17 = .ok (.aload_n 0, 1) := by decide +kernel
theorem d5_18 : decode prog_62_method_1_code 18 = .ok (.aload_n 2, 1) := by decide +kernel
theorem d5_19 : decode prog_62_method_1_code 19 = .ok (.ldc 22, 2) := by decide +kernel
theorem d5_21 : decode prog_62_method_1_code 21 = .ok (.invokestatic 9, 3) := by decide +kernel
theorem d5_24 : decode prog_62_method_1_code 24 = .ok (.checkcast 15, 3) := by decide +kernel
theorem d5_27 : decode prog_62_method_1_code 27 = .ok (.putfield 24, 3) := by decide +kernel
theorem d5_30 : decode prog_62_method_1_code 30 = .ok (.return_, 1) := by decide +kernel
theorem pn_3 : plainName "com/example/cranfield/cranfield/model/Topic" = true := by first | (simp [plainName, overriddenIn]; done) | decide +kernel
theorem ef_rmC (m : MethodId) (x0 : Addr) (x1 : Addr) (x2 : Addr) : entryFrame m #[(.ref x0), (.ref x1), (.ref x2)] 3 = mkF m 0 #[.val (.ref x0), .val (.ref x1), .val (.ref x2)] [] := by first | (simp [entryFrame, mkF, argsToLocals, Value.category]; done) | rfl
def QrmC (Z : State) (a1 : Addr) (a2 : Addr) (a3 : Addr) (h0 : Heap) (n0 : Nat) (v : Option Value) (h : Heap) (L : List Loc) : Prop := v = none ∧ Fr n0 L ∧ Keep h0 h [a1] ∧ Exa Z h a1 "com/example/cranfield/cranfield/model/Topic" ∧ Fld Z h a1 "com/example/cranfield/cranfield/model/Topic" "number" "Ljava/lang/String;" (.ref a2) ∧ Fld Z h a1 "com/example/cranfield/cranfield/model/Topic" "query" "Ljava/lang/String;" (.ref a3)
set_option maxRecDepth 65536 in
set_option maxHeartbeats 40000000 in
theorem rmC (l : Launch) (Z : State) (a0 : Array Value) (hw : ∀ d ∈ tables_1, d.before a0 Z = true) (ws : List Jvm.Cond) (a1 : Addr) (a2 : Addr) (a3 : Addr) (h0 : Heap) (n0 : Nat) (Z0 : n0 ≤ h0.size) (E_o : Exa Z h0 a1 "com/example/cranfield/cranfield/model/Topic") (F_0 : Fld Z h0 a1 "com/example/cranfield/cranfield/model/Topic" "number" "Ljava/lang/String;" .null) (F_1 : Fld Z h0 a1 "com/example/cranfield/cranfield/model/Topic" "query" "Ljava/lang/String;" .null) (g_a1 : n0 ≤ a1) (E_2 : Exa Z h0 a2 "java/lang/String") (E_3 : Exa Z h0 a3 "java/lang/String") :
    MetFree l (⟨"com/example/cranfield/cranfield/model/Topic", "<init>", "(Ljava/lang/String;Ljava/lang/String;)V"⟩ : MethodName) (head1 (Jvm.Cond.code (⟨"com/example/cranfield/cranfield/model/Topic", "<init>", "(Ljava/lang/String;Ljava/lang/String;)V"⟩ : MethodName) prog_62_method_1_code 3 none :: ws) ({ frames := 1, cells := 4, slots := 52, locals := 14 } : Room)) (fun a U => a = #[(.ref a1), (.ref a2), (.ref a3)] ∧ Z.Warmed39 U.vm ∧ U.heap = h0) (fun _ _ _ _ _ => True) (fun _ U o U' => ∃ v L, o = .returned v ∧ QrmC Z a1 a2 a3 h0 n0 v U'.heap L ∧ ReturnedEndW U o U' L ({ frames := 1, cells := 4, slots := 52, locals := 14 } : Room).cells ({ frames := 1, cells := 4, slots := 52, locals := 14 } : Room).slots) := by
  refine MetFree.of_bodySF (plainFor_of_name pn_3) hisR ?_
  intro p e s m args below meth c s₁ Bd hml0 hP hK
  obtain ⟨rfl, hZ, hh⟩ := hP
  have hx := Bd.exec
  have hby := Bd.bytes
  have hml : c.maxLocals = 3 := hml0
  have hown : s.vm.findClass "com/example/cranfield/cranfield/model/Topic" = some m.cls := findClass_of_methodNamed Bd.named
  have hnm := (name_of_methodNamed Bd.named Bd.method).1
  have X0 : Stand p l e ({ frames := 1, cells := 4, slots := 52, locals := 14 } : Room) s m #[(.ref a1), (.ref a2), (.ref a3)] below meth c s₁ [] 0 0 := Stand.of_body Bd
  have e0 : s₁.heap = h0 := by rw [← hh, Bd.state]; rfl
  have N0 := Fr.nil n0
  have pre0 : ∀ t_, Steps p.tables e below (s₁.setTop (mkF m 0 #[.val (.ref a1), .val (.ref a2), .val (.ref a3)] [])) t_ → Steps p.tables e below (s₁.setTop (entryFrame m #[(.ref a1), (.ref a2), (.ref a3)] 3)) t_ := fun t_ k_ => castTop (ef_rmC m a1 a2 a3) k_
  obtain ⟨T101, X101, e101, st101⟩ := initO X0 hx hZ hown (hw _ (List.mem_of_getElem? (i := 32) rfl)) (hw _ (List.mem_of_getElem? (i := 16) rfl)) (hw _ (List.mem_of_getElem? (i := 17) rfl)) e0 (g := (mkF m 1 #[.val (.ref a1), .val (.ref a2), .val (.ref a3)] [(.ref a1)])) rfl (by rw [hml]; rfl) rfl (hb hby d5_1) (by decide) (W := 0) (by show 2 * 0 + _ ≤ _; exact Nat.le_of_eq rfl) (by decide)
  obtain ⟨lt0, T102, h102, k1_102, X102, e102, Ext102, hS102, hk102, hZ102, hown102, st102⟩ := Jvm.RoadKit.ldcS (s := s) (vm0 := s.vm) X101 hx hZ hown (hw _ (List.mem_of_getElem? (i := 33) rfl)) (own_wS hw) e101 ((State.WarmedH.refl s).since 0) (Nat.zero_le _) (g := (mkF m 6 #[.val (.ref a1), .val (.ref a2), .val (.ref a3)] [(.ref a2), (.ref a1)])) rfl (hb hby d5_6) (n := 24) (by first | decide | decide +kernel | simp) (by decide) (by decide) (by decide)
  have E_103 := E_o.ext Ext102
  have K_104 := (Keep.refl h0 [a1]).ext Ext102
  have F0_105 := F_0.ext Ext102
  have F1_106 := F_1.ext Ext102
  have E2_107 := E_2.ext Ext102
  have E3_108 := E_3.ext Ext102
  have Z109 : n0 ≤ h102.size := Nat.le_trans Z0 (Ext102.1)
  obtain ⟨_, _, ⟨T110, L110, k110, n110⟩, -, X110, ⟨Lc110, hQ110, l110, y110, z110⟩, st110⟩ := Jvm.LawKit.callS X102 hx (y := (⟨"java/util/Objects", "requireNonNull", "(Ljava/lang/Object;Ljava/lang/String;)Ljava/lang/Object;"⟩ : MethodName)) hown102 (mvT hZ102 (hw _ (List.mem_of_getElem? (i := 34) rfl))) (mvT hZ102 (hw _ (List.mem_of_getElem? (i := 35) rfl))) (mvT hZ102 (hw _ (List.mem_of_getElem? (i := 36) rfl))) (mvT hZ102 (hw _ (List.mem_of_getElem? (i := 37) rfl))) (by decide) (backOf (W := 1) (rmQ l Z a0 hw [] a2 lt0 h102 n0 Z109 ) hZ102 (hw _ (List.mem_of_getElem? (i := 37) rfl)) (hw _ (List.mem_of_getElem? (i := 36) rfl)) (by decide) (by decide)) (g := (mkF m 8 #[.val (.ref a1), .val (.ref a2), .val (.ref a3)] [(.ref lt0), (.ref a2), (.ref a1)])) rfl (by rw [hml]; rfl) (argsL := [(.ref a2), (.ref lt0)]) (rest := [(.ref a1)]) (lenOf pd_2 rfl) rfl (by show 2 * 0 + _ ≤ _; exact Nat.le_of_eq rfl) (hb hby d5_8) (fun _ _ => ⟨rfl, e102, (by decide : 2 + 0 ≤ _), (by decide : 28 + 0 ≤ _)⟩)
  dsimp only [Pt.U, Pt.locs, Pt.cells, Pt.slots] at X110 l110 y110 z110 st110 hQ110
  subst l110 y110 z110
  obtain ⟨rfl, N110q, e110⟩ := hQ110
  have N110 := Fr.app N0 N110q
  obtain ⟨T111, X111, e111, st111⟩ := castY X110 hx hZ102 hown102 (hw _ (List.mem_of_getElem? (i := 38) rfl)) e110 (Ins.self E2_107) (g := (mkF m 11 #[.val (.ref a1), .val (.ref a2), .val (.ref a3)] [(.ref a2), (.ref a1)])) rfl rfl (hb hby d5_11)
  obtain ⟨T112, h112, X112, e112, W112, st112⟩ := putF X111 hx hZ102 hown102 (host := "") (Or.inl (hw _ (List.mem_of_getElem? (i := 39) rfl))) Via.refl e111 F0_105 E_103 (Or.inr ⟨(hw _ (List.mem_of_getElem? (i := 40) rfl)), rfl, hnm⟩) (hw _ (List.mem_of_getElem? (i := 27) rfl)) (ty := (.object "java/lang/String")) (by decide) rfl rfl (g := (mkF m 14 #[.val (.ref a1), .val (.ref a2), .val (.ref a3)] [(.ref a2), (.ref a1)])) rfl rfl (hb hby d5_14)
  have F1_113 := F1_106.other W112 (Or.inr (slot_ne (Or.inr (hw _ (List.mem_of_getElem? (i := 43) rfl))) (Or.inr (hw _ (List.mem_of_getElem? (i := 40) rfl))) (by decide) (t := (.object "java/lang/String")) (t' := (.object "java/lang/String")) (by decide) (by decide)))
  have E_114 := E_103.wr W112
  have K_115 := K_104.wr W112 (Or.inl (List.mem_of_getElem? (i := 0) rfl))
  have E2_116 := E2_107.wr W112
  have E3_117 := E3_108.wr W112
  have F0_118 := F0_105.same W112
  have N112 := Fr.snoc X112 N110 g_a1
  have Z119 : n0 ≤ h112.size := Nat.le_trans Z109 ((Keep.of_wr W112).1)
  have hk120 := Nat.le_trans hk102 ((Keep.of_wr W112).1)
  obtain ⟨lt1, T121, h121, k1_121, X121, e121, Ext121, hS121, hk121, hZ121, hown121, st121⟩ := Jvm.RoadKit.ldcS (s := s) (vm0 := T102.vm) X112 hx hZ102 hown102 (hw _ (List.mem_of_getElem? (i := 41) rfl)) (own_wS hw) e112 hS102 hk120 (g := (mkF m 19 #[.val (.ref a1), .val (.ref a2), .val (.ref a3)] [(.ref a3), (.ref a1)])) rfl (hb hby d5_19) (n := 20) (by first | decide | decide +kernel | simp) (by decide) (by decide) (by decide)
  have E_122 := E_114.ext Ext121
  have K_123 := K_115.ext Ext121
  have F0_124 := F0_118.ext Ext121
  have F1_125 := F1_113.ext Ext121
  have E2_126 := E2_116.ext Ext121
  have E3_127 := E3_117.ext Ext121
  have Z128 : n0 ≤ h121.size := Nat.le_trans Z119 (Ext121.1)
  obtain ⟨_, _, ⟨T129, L129, k129, n129⟩, -, X129, ⟨Lc129, hQ129, l129, y129, z129⟩, st129⟩ := Jvm.LawKit.callS X121 hx (y := (⟨"java/util/Objects", "requireNonNull", "(Ljava/lang/Object;Ljava/lang/String;)Ljava/lang/Object;"⟩ : MethodName)) hown121 (mvT hZ121 (hw _ (List.mem_of_getElem? (i := 34) rfl))) (mvT hZ121 (hw _ (List.mem_of_getElem? (i := 35) rfl))) (mvT hZ121 (hw _ (List.mem_of_getElem? (i := 36) rfl))) (mvT hZ121 (hw _ (List.mem_of_getElem? (i := 37) rfl))) (by decide) (backOf (W := 1) (rmQ l Z a0 hw [] a3 lt1 h121 n0 Z128 ) hZ121 (hw _ (List.mem_of_getElem? (i := 37) rfl)) (hw _ (List.mem_of_getElem? (i := 36) rfl)) (by decide) (by decide)) (g := (mkF m 21 #[.val (.ref a1), .val (.ref a2), .val (.ref a3)] [(.ref lt1), (.ref a3), (.ref a1)])) rfl (by rw [hml]; rfl) (argsL := [(.ref a3), (.ref lt1)]) (rest := [(.ref a1)]) (lenOf pd_2 rfl) rfl (by show 2 * 0 + _ ≤ _; exact Nat.le_of_eq rfl) (hb hby d5_21) (fun _ _ => ⟨rfl, e121, (by decide : 4 + 0 ≤ _), (by decide : 52 + 0 ≤ _)⟩)
  dsimp only [Pt.U, Pt.locs, Pt.cells, Pt.slots] at X129 l129 y129 z129 st129 hQ129
  subst l129 y129 z129
  obtain ⟨rfl, N129q, e129⟩ := hQ129
  have N129 := Fr.app N112 N129q
  obtain ⟨T130, X130, e130, st130⟩ := castY X129 hx hZ121 hown121 (hw _ (List.mem_of_getElem? (i := 38) rfl)) e129 (Ins.self E3_127) (g := (mkF m 24 #[.val (.ref a1), .val (.ref a2), .val (.ref a3)] [(.ref a3), (.ref a1)])) rfl rfl (hb hby d5_24)
  obtain ⟨T131, h131, X131, e131, W131, st131⟩ := putF X130 hx hZ121 hown121 (host := "") (Or.inl (hw _ (List.mem_of_getElem? (i := 42) rfl))) Via.refl e130 F1_125 E_122 (Or.inr ⟨(hw _ (List.mem_of_getElem? (i := 43) rfl)), rfl, hnm⟩) (hw _ (List.mem_of_getElem? (i := 27) rfl)) (ty := (.object "java/lang/String")) (by decide) rfl rfl (g := (mkF m 27 #[.val (.ref a1), .val (.ref a2), .val (.ref a3)] [(.ref a3), (.ref a1)])) rfl rfl (hb hby d5_27)
  have F0_132 := F0_124.other W131 (Or.inr (slot_ne (Or.inr (hw _ (List.mem_of_getElem? (i := 40) rfl))) (Or.inr (hw _ (List.mem_of_getElem? (i := 43) rfl))) (by decide) (t := (.object "java/lang/String")) (t' := (.object "java/lang/String")) (by decide) (by decide)))
  have E_133 := E_122.wr W131
  have K_134 := K_123.wr W131 (Or.inl (List.mem_of_getElem? (i := 0) rfl))
  have E2_135 := E2_126.wr W131
  have E3_136 := E3_127.wr W131
  have F1_137 := F1_125.same W131
  have N131 := Fr.snoc X131 N129 g_a1
  have Z138 : n0 ≤ h131.size := Nat.le_trans Z128 ((Keep.of_wr W131).1)
  have hk139 := Nat.le_trans hk121 ((Keep.of_wr W131).1)
  have pre140 : ∀ t_, Steps p.tables e below (T131.setTop (mkF m 30 #[.val (.ref a1), .val (.ref a2), .val (.ref a3)] [])) t_ → Steps p.tables e below (s₁.setTop (entryFrame m #[(.ref a1), (.ref a2), (.ref a3)] 3)) t_ := fun t_ k_ => pre0 _ (by
    show Steps p.tables e below (s₁.setTop (mkF m 0 #[.val (.ref a1), .val (.ref a2), .val (.ref a3)] [])) _
    refine XS.aloadN X0.here hx rfl (hb hby d5_0) rfl rfl ?_
    show Steps p.tables e below (s₁.setTop (mkF m 1 #[.val (.ref a1), .val (.ref a2), .val (.ref a3)] [(.ref a1)])) _
    refine st101 _ ?_
    show Steps p.tables e below (T101.setTop (mkF m 4 #[.val (.ref a1), .val (.ref a2), .val (.ref a3)] [])) _
    refine XS.aloadN X101.here hx rfl (hb hby d5_4) rfl rfl ?_
    show Steps p.tables e below (T101.setTop (mkF m 5 #[.val (.ref a1), .val (.ref a2), .val (.ref a3)] [(.ref a1)])) _
    refine XS.aloadN X101.here hx rfl (hb hby d5_5) rfl rfl ?_
    show Steps p.tables e below (T101.setTop (mkF m 6 #[.val (.ref a1), .val (.ref a2), .val (.ref a3)] [(.ref a2), (.ref a1)])) _
    refine st102 _ ?_
    show Steps p.tables e below (T102.setTop (mkF m 8 #[.val (.ref a1), .val (.ref a2), .val (.ref a3)] [(.ref lt0), (.ref a2), (.ref a1)])) _
    refine st110 _ ?_
    show Steps p.tables e below (T110.setTop (mkF m 11 #[.val (.ref a1), .val (.ref a2), .val (.ref a3)] [(.ref a2), (.ref a1)])) _
    refine st111 _ ?_
    show Steps p.tables e below (T111.setTop (mkF m 14 #[.val (.ref a1), .val (.ref a2), .val (.ref a3)] [(.ref a2), (.ref a1)])) _
    refine st112 _ ?_
    show Steps p.tables e below (T112.setTop (mkF m 17 #[.val (.ref a1), .val (.ref a2), .val (.ref a3)] [])) _
    refine XS.aloadN X112.here hx rfl (hb hby d5_17) rfl rfl ?_
    show Steps p.tables e below (T112.setTop (mkF m 18 #[.val (.ref a1), .val (.ref a2), .val (.ref a3)] [(.ref a1)])) _
    refine XS.aloadN X112.here hx rfl (hb hby d5_18) rfl rfl ?_
    show Steps p.tables e below (T112.setTop (mkF m 19 #[.val (.ref a1), .val (.ref a2), .val (.ref a3)] [(.ref a3), (.ref a1)])) _
    refine st121 _ ?_
    show Steps p.tables e below (T121.setTop (mkF m 21 #[.val (.ref a1), .val (.ref a2), .val (.ref a3)] [(.ref lt1), (.ref a3), (.ref a1)])) _
    refine st129 _ ?_
    show Steps p.tables e below (T129.setTop (mkF m 24 #[.val (.ref a1), .val (.ref a2), .val (.ref a3)] [(.ref a3), (.ref a1)])) _
    refine st130 _ ?_
    show Steps p.tables e below (T130.setTop (mkF m 27 #[.val (.ref a1), .val (.ref a2), .val (.ref a3)] [(.ref a3), (.ref a1)])) _
    refine st131 _ ?_
    exact k_)
  obtain ⟨fs, hr, hrun, hended, hWr, hW1, hW2, hsame⟩ := Jvm.Stand.leaveW (s := s) X131 hS121 (by rw [e131]; exact hk139) (v := none) (fun _ => rfl)
  refine ⟨_, _, pre140 _ ?_, hrun, hended, _, _, rfl, ?_, hWr, hW1, hW2, hsame.mono (by decide) (by decide)⟩
  · show Steps p.tables e below (T131.setTop (mkF m 30 #[.val (.ref a1), .val (.ref a2), .val (.ref a3)] [])) _
    exact X131.returnOut hx Bd.returns (hb hby d5_30) hr
  · show QrmC Z a1 a2 a3 h0 n0 _ T131.heap _
    rw [e131]
    exact ⟨rfl, N131, K_134, E_133, F0_132, F1_137⟩
theorem d7_0 : decode prog_62_method_4_code 0 = .ok (.aload_n 1, 1) := by decide +kernel
theorem d7_1 : decode prog_62_method_4_code 1 = .ok (.instanceof 18, 3) := by decide +kernel
theorem d7_4 : decode prog_62_method_4_code 4 = .ok (.ifCond .ne 5, 3) := by decide +kernel
theorem d7_7 : decode prog_62_method_4_code 7 = .ok (.iconst 0, 1) := by decide +kernel
theorem d7_8 : decode prog_62_method_4_code 8 = .ok (.ireturn, 1) := by decide +kernel
theorem ef_rmE0 (m : MethodId) (x0 : Addr) : entryFrame m #[(.ref x0), .null] 3 = mkF m 0 #[.val (.ref x0), .val .null, .unset] [] := by first | (simp [entryFrame, mkF, argsToLocals, Value.category]; done) | rfl
def QrmE0 (Z : State) (a1 : Addr) (h0 : Heap) (n0 : Nat) (v : Option Value) (h : Heap) (L : List Loc) : Prop := v = some (.int 0) ∧ Fr n0 L ∧ h = h0
set_option maxRecDepth 65536 in
set_option maxHeartbeats 40000000 in
theorem rmE0 (l : Launch) (Z : State) (a0 : Array Value) (hw : ∀ d ∈ tables_1, d.before a0 Z = true) (ws : List Jvm.Cond) (a1 : Addr) (h0 : Heap) (n0 : Nat) (Z0 : n0 ≤ h0.size) :
    MetFree l (⟨"com/example/cranfield/cranfield/model/Topic", "equals", "(Ljava/lang/Object;)Z"⟩ : MethodName) (head1 (Jvm.Cond.code (⟨"com/example/cranfield/cranfield/model/Topic", "equals", "(Ljava/lang/Object;)Z"⟩ : MethodName) prog_62_method_4_code 3 (some .boolean) :: ws) ({ frames := 0, cells := 0, slots := 0, locals := 0 } : Room)) (fun a U => a = #[(.ref a1), .null] ∧ Z.Warmed39 U.vm ∧ U.heap = h0) (fun _ _ _ _ _ => True) (fun _ U o U' => ∃ v L, o = .returned v ∧ QrmE0 Z a1 h0 n0 v U'.heap L ∧ FrameEnd U o U' L ({ frames := 0, cells := 0, slots := 0, locals := 0 } : Room).cells ({ frames := 0, cells := 0, slots := 0, locals := 0 } : Room).slots) := by
  refine MetFree.of_bodySF (plainFor_of_name pn_3) hisR ?_
  intro p e s m args below meth c s₁ Bd hml0 hP hK
  obtain ⟨rfl, hZ, hh⟩ := hP
  have hx := Bd.exec
  have hby := Bd.bytes
  have hml : c.maxLocals = 3 := hml0
  have hown : s.vm.findClass "com/example/cranfield/cranfield/model/Topic" = some m.cls := findClass_of_methodNamed Bd.named
  have hnm := (name_of_methodNamed Bd.named Bd.method).1
  have X0 : Stand p l e ({ frames := 0, cells := 0, slots := 0, locals := 0 } : Room) s m #[(.ref a1), .null] below meth c s₁ [] 0 0 := Stand.of_body Bd
  have e0 : s₁.heap = h0 := by rw [← hh, Bd.state]; rfl
  have N0 := Fr.nil n0
  have pre0 : ∀ t_, Steps p.tables e below (s₁.setTop (mkF m 0 #[.val (.ref a1), .val .null, .unset] [])) t_ → Steps p.tables e below (s₁.setTop (entryFrame m #[(.ref a1), .null] 3)) t_ := fun t_ k_ => castTop (ef_rmE0 m a1) k_
  have pre101 : ∀ t_, Steps p.tables e below (s₁.setTop (mkF m 8 #[.val (.ref a1), .val .null, .unset] [(.int (0 : Int32))])) t_ → Steps p.tables e below (s₁.setTop (entryFrame m #[(.ref a1), .null] 3)) t_ := fun t_ k_ => pre0 _ (by
    show Steps p.tables e below (s₁.setTop (mkF m 0 #[.val (.ref a1), .val .null, .unset] [])) _
    refine XS.aloadN X0.here hx rfl (hb hby d7_0) rfl rfl ?_
    show Steps p.tables e below (s₁.setTop (mkF m 1 #[.val (.ref a1), .val .null, .unset] [.null])) _
    refine X0.instanceofNull hx (g := (mkF m 1 #[.val (.ref a1), .val .null, .unset] [.null])) rfl rfl (hb hby d7_1) _ ?_
    show Steps p.tables e below (s₁.setTop (mkF m 4 #[.val (.ref a1), .val .null, .unset] [(.int (0 : Int32))])) _
    refine XS.ifNo X0.here hx rfl (hb hby d7_4) rfl ((if0 _ _).trans (teq (rfl : (0 : Int32) = 0)).2) ?_
    show Steps p.tables e below (s₁.setTop (mkF m 7 #[.val (.ref a1), .val .null, .unset] [])) _
    refine XS.iconst X0.here hx rfl (hb hby d7_7) ?_
    exact k_)
  obtain ⟨fs, hr, hrun, hended, hW, hsame⟩ := X0.leave (v := some (.int (0 : Int32))) (fun h => by rw [Bd.returns] at h; cases h)
  refine ⟨_, _, pre101 _ ?_, hrun, hended, _, _, rfl, ?_, ⟨_, rfl⟩, hW, hsame.mono (by decide) (by decide)⟩
  · show Steps p.tables e below (s₁.setTop (mkF m 8 #[.val (.ref a1), .val .null, .unset] [(.int (0 : Int32))])) _
    exact retN X0 hx (t := .boolean) Bd.returns (by simp) (hb hby d7_8) hr
  · show QrmE0 Z a1 h0 n0 _ s₁.heap _
    rw [e0]
    exact ⟨rfl, N0, rfl⟩
theorem ef_rmE1 (m : MethodId) (x0 : Addr) (x1 : Addr) : entryFrame m #[(.ref x0), (.ref x1)] 3 = mkF m 0 #[.val (.ref x0), .val (.ref x1), .unset] [] := by first | (simp [entryFrame, mkF, argsToLocals, Value.category]; done) | rfl
def QrmE1 (Z : State) (a1 : Addr) (a2 : Addr) (h0 : Heap) (n0 : Nat) (v : Option Value) (h : Heap) (L : List Loc) : Prop := v = some (.int 0) ∧ Fr n0 L ∧ h = h0
set_option maxRecDepth 65536 in
set_option maxHeartbeats 40000000 in
theorem rmE1 (l : Launch) (Z : State) (a0 : Array Value) (hw : ∀ d ∈ tables_1, d.before a0 Z = true) (ws : List Jvm.Cond) (a1 : Addr) (a2 : Addr) (h0 : Heap) (n0 : Nat) (Z0 : n0 ≤ h0.size) (E_i : Exa Z h0 a2 "java/lang/String") :
    MetFree l (⟨"com/example/cranfield/cranfield/model/Topic", "equals", "(Ljava/lang/Object;)Z"⟩ : MethodName) (head1 (Jvm.Cond.code (⟨"com/example/cranfield/cranfield/model/Topic", "equals", "(Ljava/lang/Object;)Z"⟩ : MethodName) prog_62_method_4_code 3 (some .boolean) :: ws) ({ frames := 0, cells := 0, slots := 0, locals := 0 } : Room)) (fun a U => a = #[(.ref a1), (.ref a2)] ∧ Z.Warmed39 U.vm ∧ U.heap = h0) (fun _ _ _ _ _ => True) (fun _ U o U' => ∃ v L, o = .returned v ∧ QrmE1 Z a1 a2 h0 n0 v U'.heap L ∧ FrameEnd U o U' L ({ frames := 0, cells := 0, slots := 0, locals := 0 } : Room).cells ({ frames := 0, cells := 0, slots := 0, locals := 0 } : Room).slots) := by
  refine MetFree.of_bodySF (plainFor_of_name pn_3) hisR ?_
  intro p e s m args below meth c s₁ Bd hml0 hP hK
  obtain ⟨rfl, hZ, hh⟩ := hP
  have hx := Bd.exec
  have hby := Bd.bytes
  have hml : c.maxLocals = 3 := hml0
  have hown : s.vm.findClass "com/example/cranfield/cranfield/model/Topic" = some m.cls := findClass_of_methodNamed Bd.named
  have hnm := (name_of_methodNamed Bd.named Bd.method).1
  have X0 : Stand p l e ({ frames := 0, cells := 0, slots := 0, locals := 0 } : Room) s m #[(.ref a1), (.ref a2)] below meth c s₁ [] 0 0 := Stand.of_body Bd
  have e0 : s₁.heap = h0 := by rw [← hh, Bd.state]; rfl
  have N0 := Fr.nil n0
  have pre0 : ∀ t_, Steps p.tables e below (s₁.setTop (mkF m 0 #[.val (.ref a1), .val (.ref a2), .unset] [])) t_ → Steps p.tables e below (s₁.setTop (entryFrame m #[(.ref a1), (.ref a2)] 3)) t_ := fun t_ k_ => castTop (ef_rmE1 m a1 a2) k_
  obtain ⟨T101, X101, e101, st101⟩ := instNo X0 hx hZ hown (hw _ (List.mem_of_getElem? (i := 49) rfl)) e0 E_i (own_ns1 (hw _ (List.mem_of_getElem? (i := 79) rfl)) (hw _ (List.mem_of_getElem? (i := 80) rfl)) (hw _ (List.mem_of_getElem? (i := 27) rfl)) (by decide) (by decide)) (g := (mkF m 1 #[.val (.ref a1), .val (.ref a2), .unset] [(.ref a2)])) rfl rfl (hb hby d7_1)
  have pre102 : ∀ t_, Steps p.tables e below (T101.setTop (mkF m 8 #[.val (.ref a1), .val (.ref a2), .unset] [(.int (0 : Int32))])) t_ → Steps p.tables e below (s₁.setTop (entryFrame m #[(.ref a1), (.ref a2)] 3)) t_ := fun t_ k_ => pre0 _ (by
    show Steps p.tables e below (s₁.setTop (mkF m 0 #[.val (.ref a1), .val (.ref a2), .unset] [])) _
    refine XS.aloadN X0.here hx rfl (hb hby d7_0) rfl rfl ?_
    show Steps p.tables e below (s₁.setTop (mkF m 1 #[.val (.ref a1), .val (.ref a2), .unset] [(.ref a2)])) _
    refine st101 _ ?_
    show Steps p.tables e below (T101.setTop (mkF m 4 #[.val (.ref a1), .val (.ref a2), .unset] [(.int (0 : Int32))])) _
    refine XS.ifNo X101.here hx rfl (hb hby d7_4) rfl ((if0 _ _).trans (teq (rfl : (0 : Int32) = 0)).2) ?_
    show Steps p.tables e below (T101.setTop (mkF m 7 #[.val (.ref a1), .val (.ref a2), .unset] [])) _
    refine XS.iconst X101.here hx rfl (hb hby d7_7) ?_
    exact k_)
  obtain ⟨fs, hr, hrun, hended, hW, hsame⟩ := X101.leave (v := some (.int (0 : Int32))) (fun h => by rw [Bd.returns] at h; cases h)
  refine ⟨_, _, pre102 _ ?_, hrun, hended, _, _, rfl, ?_, ⟨_, rfl⟩, hW, hsame.mono (by decide) (by decide)⟩
  · show Steps p.tables e below (T101.setTop (mkF m 8 #[.val (.ref a1), .val (.ref a2), .unset] [(.int (0 : Int32))])) _
    exact retN X101 hx (t := .boolean) Bd.returns (by simp) (hb hby d7_8) hr
  · show QrmE1 Z a1 a2 h0 n0 _ T101.heap _
    rw [e101]
    exact ⟨rfl, N0, rfl⟩
theorem pd_3 : parseMethodDescriptor "(Ljava/lang/Object;)Z" = some ⟨[(.object "java/lang/Object")], some .boolean⟩ := by decide +kernel
theorem d7_9 : decode prog_62_method_4_code 9 = .ok (.aload_n 1, 1) := by decide +kernel
theorem d7_10 : decode prog_62_method_4_code 10 = .ok (.checkcast 18, 3) := by decide +kernel
theorem d7_13 : decode prog_62_method_4_code 13 = .ok (.astore_n 2, 1) := by decide +kernel
theorem d7_14 : decode prog_62_method_4_code 14 = .ok (.aload_n 0, 1) := by decide +kernel
theorem d7_15 : decode prog_62_method_4_code 15 = .ok (.getfield 17, 3) := by decide +kernel
theorem d7_18 : decode prog_62_method_4_code 18 = .ok (.aload_n 2, 1) := by decide +kernel
theorem d7_19 : decode prog_62_method_4_code 19 = .ok (.getfield 17, 3) := by decide +kernel
theorem d7_22 : decode prog_62_method_4_code 22 = .ok (.invokevirtual 26, 3) := by decide +kernel
theorem d7_25 : decode prog_62_method_4_code 25 = .ok (.ifCond .eq 21, 3) := by decide +kernel
theorem d7_28 : decode prog_62_method_4_code 28 = .ok (.aload_n 0, 1) := by decide +kernel
theorem d7_29 : decode prog_62_method_4_code 29 = .ok (.getfield 24, 3) := by decide +kernel
theorem d7_32 : decode prog_62_method_4_code 32 = .ok (.aload_n 2, 1) := by decide +kernel
theorem d7_33 : decode prog_62_method_4_code 33 = .ok (.getfield 24, 3) := by decide +kernel
theorem d7_36 : decode prog_62_method_4_code 36 = .ok (.invokevirtual 26, 3) := by decide +kernel
theorem d7_39 : decode prog_62_method_4_code 39 = .ok (.ifCond .eq 7, 3) := by decide +kernel
theorem d7_42 : decode prog_62_method_4_code 42 = .ok (.iconst 1, 1) := by decide +kernel
theorem d7_43 : decode prog_62_method_4_code 43 = .ok (.goto 4, 3) := by decide +kernel
theorem d7_46 : decode prog_62_method_4_code 46 = .ok (.iconst 0, 1) := by decide +kernel
theorem d7_47 : decode prog_62_method_4_code 47 = .ok (.ireturn, 1) := by decide +kernel
theorem ef_rmE2 (m : MethodId) (x0 : Addr) (x1 : Addr) : entryFrame m #[(.ref x0), (.ref x1)] 3 = mkF m 0 #[.val (.ref x0), .val (.ref x1), .unset] [] := by first | (simp [entryFrame, mkF, argsToLocals, Value.category]; done) | rfl
def QrmE2 (Z : State) (a1 : Addr) (a2 : Addr) (n1 : Addr) (q1 : Addr) (n2 : Addr) (q2 : Addr) (c1 : List Int32) (d1 : List Int32) (c2 : List Int32) (d2 : List Int32) (zc : Int32) (h0 : Heap) (n0 : Nat) (v : Option Value) (h : Heap) (L : List Loc) : Prop := v = some (.int (own_teq c1 d1 c2 d2)) ∧ Fr n0 L ∧ h = h0
set_option maxRecDepth 65536 in
set_option maxHeartbeats 40000000 in
theorem rmE2 (l : Launch) (Z : State) (a0 : Array Value) (hw : ∀ d ∈ tables_1, d.before a0 Z = true) (ws : List Jvm.Cond) (a1 : Addr) (a2 : Addr) (n1 : Addr) (q1 : Addr) (n2 : Addr) (q2 : Addr) (c1 : List Int32) (d1 : List Int32) (c2 : List Int32) (d2 : List Int32) (zc : Int32) (h0 : Heap) (n0 : Nat) (Z0 : n0 ≤ h0.size) (E_i : Exa Z h0 a2 "com/example/cranfield/cranfield/model/Topic") (F0 : Fld Z h0 a1 "com/example/cranfield/cranfield/model/Topic" "number" "Ljava/lang/String;" (.ref n1)) (F1 : Fld Z h0 a1 "com/example/cranfield/cranfield/model/Topic" "query" "Ljava/lang/String;" (.ref q1)) (G0 : Fld Z h0 a2 "com/example/cranfield/cranfield/model/Topic" "number" "Ljava/lang/String;" (.ref n2)) (G1 : Fld Z h0 a2 "com/example/cranfield/cranfield/model/Topic" "query" "Ljava/lang/String;" (.ref q2)) (T1 : own_Str Z h0 n1 c1) (U1 : own_Str Z h0 q1 d1) (T2 : own_Str Z h0 n2 c2) (U2 : own_Str Z h0 q2 d2) (S_c : Sta Z h0 "java/lang/String" "COMPACT_STRINGS" "Z" (.int zc)) (hzc : ¬ zc = 0) :
    MetFree l (⟨"com/example/cranfield/cranfield/model/Topic", "equals", "(Ljava/lang/Object;)Z"⟩ : MethodName) (head1 (Jvm.Cond.code (⟨"com/example/cranfield/cranfield/model/Topic", "equals", "(Ljava/lang/Object;)Z"⟩ : MethodName) prog_62_method_4_code 3 (some .boolean) :: ws) ({ frames := 2, cells := 0, slots := 0, locals := 28 } : Room)) (fun a U => a = #[(.ref a1), (.ref a2)] ∧ Z.Warmed39 U.vm ∧ U.heap = h0) (fun _ _ _ _ _ => True) (fun _ U o U' => ∃ v L, o = .returned v ∧ QrmE2 Z a1 a2 n1 q1 n2 q2 c1 d1 c2 d2 zc h0 n0 v U'.heap L ∧ FrameEnd U o U' L ({ frames := 2, cells := 0, slots := 0, locals := 28 } : Room).cells ({ frames := 2, cells := 0, slots := 0, locals := 28 } : Room).slots) := by
  refine MetFree.of_bodySF (plainFor_of_name pn_3) hisR ?_
  intro p e s m args below meth c s₁ Bd hml0 hP hK
  obtain ⟨rfl, hZ, hh⟩ := hP
  have hx := Bd.exec
  have hby := Bd.bytes
  have hml : c.maxLocals = 3 := hml0
  have hown : s.vm.findClass "com/example/cranfield/cranfield/model/Topic" = some m.cls := findClass_of_methodNamed Bd.named
  have hnm := (name_of_methodNamed Bd.named Bd.method).1
  have X0 : Stand p l e ({ frames := 2, cells := 0, slots := 0, locals := 28 } : Room) s m #[(.ref a1), (.ref a2)] below meth c s₁ [] 0 0 := Stand.of_body Bd
  have e0 : s₁.heap = h0 := by rw [← hh, Bd.state]; rfl
  have N0 := Fr.nil n0
  have pre0 : ∀ t_, Steps p.tables e below (s₁.setTop (mkF m 0 #[.val (.ref a1), .val (.ref a2), .unset] [])) t_ → Steps p.tables e below (s₁.setTop (entryFrame m #[(.ref a1), (.ref a2)] 3)) t_ := fun t_ k_ => castTop (ef_rmE2 m a1 a2) k_
  obtain ⟨T101, X101, e101, st101⟩ := instY X0 hx hZ hown (hw _ (List.mem_of_getElem? (i := 49) rfl)) e0 (Ins.self E_i) (g := (mkF m 1 #[.val (.ref a1), .val (.ref a2), .unset] [(.ref a2)])) rfl rfl (hb hby d7_1)
  obtain ⟨T102, X102, e102, st102⟩ := castY X101 hx hZ hown (hw _ (List.mem_of_getElem? (i := 49) rfl)) e101 (Ins.self E_i) (g := (mkF m 10 #[.val (.ref a1), .val (.ref a2), .unset] [(.ref a2)])) rfl rfl (hb hby d7_10)
  obtain ⟨T103, X103, e103, st103⟩ := getF X102 hx hZ hown (host := "") (Or.inl (hw _ (List.mem_of_getElem? (i := 39) rfl))) Via.refl e102 F0 (g := (mkF m 15 #[.val (.ref a1), .val (.ref a2), .val (.ref a2)] [(.ref a1)])) rfl rfl (hb hby d7_15)
  obtain ⟨T104, X104, e104, st104⟩ := getF X103 hx hZ hown (host := "") (Or.inl (hw _ (List.mem_of_getElem? (i := 39) rfl))) Via.refl e103 G0 (g := (mkF m 19 #[.val (.ref a1), .val (.ref a2), .val (.ref a2)] [(.ref a2), (.ref n1)])) rfl rfl (hb hby d7_19)
  have pre105 : ∀ t_, Steps p.tables e below (T104.setTop (mkF m 22 #[.val (.ref a1), .val (.ref a2), .val (.ref a2)] [(.ref n2), (.ref n1)])) t_ → Steps p.tables e below (s₁.setTop (entryFrame m #[(.ref a1), (.ref a2)] 3)) t_ := fun t_ k_ => pre0 _ (by
    show Steps p.tables e below (s₁.setTop (mkF m 0 #[.val (.ref a1), .val (.ref a2), .unset] [])) _
    refine XS.aloadN X0.here hx rfl (hb hby d7_0) rfl rfl ?_
    show Steps p.tables e below (s₁.setTop (mkF m 1 #[.val (.ref a1), .val (.ref a2), .unset] [(.ref a2)])) _
    refine st101 _ ?_
    show Steps p.tables e below (T101.setTop (mkF m 4 #[.val (.ref a1), .val (.ref a2), .unset] [(.int (1 : Int32))])) _
    refine XS.ifYes X101.here hx rfl (pc0 := 4) (pc' := 9) rfl (hb hby d7_4) rfl ((if0 _ _).trans (feq (by decide : ¬ (1 : Int32) = 0)).2) (by decide) (by decide) ?_
    show Steps p.tables e below (T101.setTop (mkF m 9 #[.val (.ref a1), .val (.ref a2), .unset] [])) _
    refine XS.aloadN X101.here hx rfl (hb hby d7_9) rfl rfl ?_
    show Steps p.tables e below (T101.setTop (mkF m 10 #[.val (.ref a1), .val (.ref a2), .unset] [(.ref a2)])) _
    refine st102 _ ?_
    show Steps p.tables e below (T102.setTop (mkF m 13 #[.val (.ref a1), .val (.ref a2), .unset] [(.ref a2)])) _
    refine XS.astoreN X102.here hx rfl (hb hby d7_13) rfl rfl (l' := #[.val (.ref a1), .val (.ref a2), .val (.ref a2)]) rfl ?_
    show Steps p.tables e below (T102.setTop (mkF m 14 #[.val (.ref a1), .val (.ref a2), .val (.ref a2)] [])) _
    refine XS.aloadN X102.here hx rfl (hb hby d7_14) rfl rfl ?_
    show Steps p.tables e below (T102.setTop (mkF m 15 #[.val (.ref a1), .val (.ref a2), .val (.ref a2)] [(.ref a1)])) _
    refine st103 _ ?_
    show Steps p.tables e below (T103.setTop (mkF m 18 #[.val (.ref a1), .val (.ref a2), .val (.ref a2)] [(.ref n1)])) _
    refine XS.aloadN X103.here hx rfl (hb hby d7_18) rfl rfl ?_
    show Steps p.tables e below (T103.setTop (mkF m 19 #[.val (.ref a1), .val (.ref a2), .val (.ref a2)] [(.ref a2), (.ref n1)])) _
    refine st104 _ ?_
    exact k_)
  obtain ⟨t106, kb106, cd106, N106_, vs106, E1_106, V1_106, C1_106, A1_106, D1_106, B1_106, L1_106⟩ := id T1
  obtain ⟨u106, kc106, ce106, M106_, ws106, E2_106, V2_106, C2_106, A2_106, D2_106, B2_106, L2_106⟩ := id T2
  obtain ⟨cq107, kq107, q107a, q107b, q107c⟩ := isOf hZ e104 E1_106
  obtain ⟨_, _, ⟨T107, L107, k107, n107⟩, -, X107, ⟨Lc107, hQ107, l107, y107, z107⟩, st107⟩ := X104.virtualBack hx (y := (⟨"java/lang/String", "equals", "(Ljava/lang/Object;)Z"⟩ : MethodName)) (z := (⟨"java/lang/String", "equals", "(Ljava/lang/Object;)Z"⟩ : MethodName)) hown (mvT hZ (hw _ (List.mem_of_getElem? (i := 51) rfl))) (mvT hZ (hw _ (List.mem_of_getElem? (i := 52) rfl))) (notFace_of_selects (args := #[]) (mvT hZ (hw _ (List.mem_of_getElem? (i := 54) rfl)))) (mvT hZ (hw _ (List.mem_of_getElem? (i := 54) rfl))) (mvT hZ (hw _ (List.mem_of_getElem? (i := 53) rfl))) (by decide) (StrChars.Road.eqW (W := 0) hZ (own_heq hw) (kI := 4) (hw _ (List.mem_of_getElem? (i := 5) rfl)) (cs := c1) E1_106 V1_106 C1_106 A1_106 D1_106 B1_106 L1_106 (ds := c2) E2_106 V2_106 C2_106 A2_106 D2_106 B2_106 L2_106 S_c hzc (by decide) (by decide)) q107a q107c (g := (mkF m 22 #[.val (.ref a1), .val (.ref a2), .val (.ref a2)] [(.ref n2), (.ref n1)])) rfl (by rw [hml]; rfl) (Steps.refl _) (argsL := [(.ref n2)]) (rest := []) (lenOf pd_3 rfl) rfl (by show 2 * 0 + _ ≤ _; exact Nat.le_of_eq rfl) (hb hby d7_22) (fun _ _ => ⟨rfl, e104, (by decide : 0 + 0 ≤ _), (by decide : 0 + 0 ≤ _)⟩)
  dsimp only [Pt.U, Pt.locs, Pt.cells, Pt.slots] at X107 l107 y107 z107 st107 hQ107
  subst l107 y107 z107
  obtain ⟨hv107, rfl, e107⟩ := hQ107
  have N107 := Fr.app N0 (Fr.nil n0)
  rcases hv107 with ⟨rfl, hq107⟩ | ⟨rfl, hq107⟩
  · skip
    obtain ⟨T108, X108, e108, st108⟩ := getF X107 hx hZ hown (host := "") (Or.inl (hw _ (List.mem_of_getElem? (i := 42) rfl))) Via.refl e107 F1 (g := (mkF m 29 #[.val (.ref a1), .val (.ref a2), .val (.ref a2)] [(.ref a1)])) rfl rfl (hb hby d7_29)
    obtain ⟨T109, X109, e109, st109⟩ := getF X108 hx hZ hown (host := "") (Or.inl (hw _ (List.mem_of_getElem? (i := 42) rfl))) Via.refl e108 G1 (g := (mkF m 33 #[.val (.ref a1), .val (.ref a2), .val (.ref a2)] [(.ref a2), (.ref q1)])) rfl rfl (hb hby d7_33)
    have pre110 : ∀ t_, Steps p.tables e below (T109.setTop (mkF m 36 #[.val (.ref a1), .val (.ref a2), .val (.ref a2)] [(.ref q2), (.ref q1)])) t_ → Steps p.tables e below (s₁.setTop (entryFrame m #[(.ref a1), (.ref a2)] 3)) t_ := fun t_ k_ => pre105 _ (by
      show Steps p.tables e below (T104.setTop (mkF m 22 #[.val (.ref a1), .val (.ref a2), .val (.ref a2)] [(.ref n2), (.ref n1)])) _
      refine st107.trans ?_
      show Steps p.tables e below (T107.setTop (mkF m 25 #[.val (.ref a1), .val (.ref a2), .val (.ref a2)] [(.int (1 : Int32))])) _
      refine XS.ifNo X107.here hx rfl (hb hby d7_25) rfl ((if0 _ _).trans (feq (by decide : ¬ (1 : Int32) = 0)).1) ?_
      show Steps p.tables e below (T107.setTop (mkF m 28 #[.val (.ref a1), .val (.ref a2), .val (.ref a2)] [])) _
      refine XS.aloadN X107.here hx rfl (hb hby d7_28) rfl rfl ?_
      show Steps p.tables e below (T107.setTop (mkF m 29 #[.val (.ref a1), .val (.ref a2), .val (.ref a2)] [(.ref a1)])) _
      refine st108 _ ?_
      show Steps p.tables e below (T108.setTop (mkF m 32 #[.val (.ref a1), .val (.ref a2), .val (.ref a2)] [(.ref q1)])) _
      refine XS.aloadN X108.here hx rfl (hb hby d7_32) rfl rfl ?_
      show Steps p.tables e below (T108.setTop (mkF m 33 #[.val (.ref a1), .val (.ref a2), .val (.ref a2)] [(.ref a2), (.ref q1)])) _
      refine st109 _ ?_
      exact k_)
    obtain ⟨t111, kb111, cd111, N111_, vs111, E1_111, V1_111, C1_111, A1_111, D1_111, B1_111, L1_111⟩ := id U1
    obtain ⟨u111, kc111, ce111, M111_, ws111, E2_111, V2_111, C2_111, A2_111, D2_111, B2_111, L2_111⟩ := id U2
    obtain ⟨cq112, kq112, q112a, q112b, q112c⟩ := isOf hZ e109 E1_111
    obtain ⟨_, _, ⟨T112, L112, k112, n112⟩, -, X112, ⟨Lc112, hQ112, l112, y112, z112⟩, st112⟩ := X109.virtualBack hx (y := (⟨"java/lang/String", "equals", "(Ljava/lang/Object;)Z"⟩ : MethodName)) (z := (⟨"java/lang/String", "equals", "(Ljava/lang/Object;)Z"⟩ : MethodName)) hown (mvT hZ (hw _ (List.mem_of_getElem? (i := 51) rfl))) (mvT hZ (hw _ (List.mem_of_getElem? (i := 52) rfl))) (notFace_of_selects (args := #[]) (mvT hZ (hw _ (List.mem_of_getElem? (i := 54) rfl)))) (mvT hZ (hw _ (List.mem_of_getElem? (i := 54) rfl))) (mvT hZ (hw _ (List.mem_of_getElem? (i := 53) rfl))) (by decide) (StrChars.Road.eqW (W := 0) hZ (own_heq hw) (kI := 4) (hw _ (List.mem_of_getElem? (i := 5) rfl)) (cs := d1) E1_111 V1_111 C1_111 A1_111 D1_111 B1_111 L1_111 (ds := d2) E2_111 V2_111 C2_111 A2_111 D2_111 B2_111 L2_111 S_c hzc (by decide) (by decide)) q112a q112c (g := (mkF m 36 #[.val (.ref a1), .val (.ref a2), .val (.ref a2)] [(.ref q2), (.ref q1)])) rfl (by rw [hml]; rfl) (Steps.refl _) (argsL := [(.ref q2)]) (rest := []) (lenOf pd_3 rfl) rfl (by show 2 * 0 + _ ≤ _; exact Nat.le_of_eq rfl) (hb hby d7_36) (fun _ _ => ⟨rfl, e109, (by decide : 0 + 0 ≤ _), (by decide : 0 + 0 ≤ _)⟩)
    dsimp only [Pt.U, Pt.locs, Pt.cells, Pt.slots] at X112 l112 y112 z112 st112 hQ112
    subst l112 y112 z112
    obtain ⟨hv112, rfl, e112⟩ := hQ112
    have N112 := Fr.app N107 (Fr.nil n0)
    rcases hv112 with ⟨rfl, hq112⟩ | ⟨rfl, hq112⟩
    · skip
      have pre113 : ∀ t_, Steps p.tables e below (T112.setTop (mkF m 47 #[.val (.ref a1), .val (.ref a2), .val (.ref a2)] [(.int (1 : Int32))])) t_ → Steps p.tables e below (s₁.setTop (entryFrame m #[(.ref a1), (.ref a2)] 3)) t_ := fun t_ k_ => pre110 _ (by
        show Steps p.tables e below (T109.setTop (mkF m 36 #[.val (.ref a1), .val (.ref a2), .val (.ref a2)] [(.ref q2), (.ref q1)])) _
        refine st112.trans ?_
        show Steps p.tables e below (T112.setTop (mkF m 39 #[.val (.ref a1), .val (.ref a2), .val (.ref a2)] [(.int (1 : Int32))])) _
        refine XS.ifNo X112.here hx rfl (hb hby d7_39) rfl ((if0 _ _).trans (feq (by decide : ¬ (1 : Int32) = 0)).1) ?_
        show Steps p.tables e below (T112.setTop (mkF m 42 #[.val (.ref a1), .val (.ref a2), .val (.ref a2)] [])) _
        refine XS.iconst X112.here hx rfl (hb hby d7_42) ?_
        show Steps p.tables e below (T112.setTop (mkF m 43 #[.val (.ref a1), .val (.ref a2), .val (.ref a2)] [(.int (1 : Int32))])) _
        refine XS.goto X112.here hx rfl (pc0 := 43) (pc' := 47) rfl (hb hby d7_43) (by decide) (by decide) ?_
        exact k_)
      obtain ⟨fs, hr, hrun, hended, hW, hsame⟩ := X112.leave (v := some (.int (1 : Int32))) (fun h => by rw [Bd.returns] at h; cases h)
      refine ⟨_, _, pre113 _ ?_, hrun, hended, _, _, rfl, ?_, ⟨_, rfl⟩, hW, hsame.mono (by decide) (by decide)⟩
      · show Steps p.tables e below (T112.setTop (mkF m 47 #[.val (.ref a1), .val (.ref a2), .val (.ref a2)] [(.int (1 : Int32))])) _
        exact retN X112 hx (t := .boolean) Bd.returns (by simp) (hb hby d7_47) hr
      · show QrmE2 Z a1 a2 n1 q1 n2 q2 c1 d1 c2 d2 zc h0 n0 _ T112.heap _
        rw [e112]
        exact ⟨by rw [own_teq, if_pos hq107, if_pos hq112], N112, rfl⟩
    · skip
      have pre114 : ∀ t_, Steps p.tables e below (T112.setTop (mkF m 47 #[.val (.ref a1), .val (.ref a2), .val (.ref a2)] [(.int (0 : Int32))])) t_ → Steps p.tables e below (s₁.setTop (entryFrame m #[(.ref a1), (.ref a2)] 3)) t_ := fun t_ k_ => pre110 _ (by
        show Steps p.tables e below (T109.setTop (mkF m 36 #[.val (.ref a1), .val (.ref a2), .val (.ref a2)] [(.ref q2), (.ref q1)])) _
        refine st112.trans ?_
        show Steps p.tables e below (T112.setTop (mkF m 39 #[.val (.ref a1), .val (.ref a2), .val (.ref a2)] [(.int (0 : Int32))])) _
        refine XS.ifYes X112.here hx rfl (pc0 := 39) (pc' := 46) rfl (hb hby d7_39) rfl ((if0 _ _).trans (teq (rfl : (0 : Int32) = 0)).1) (by decide) (by decide) ?_
        show Steps p.tables e below (T112.setTop (mkF m 46 #[.val (.ref a1), .val (.ref a2), .val (.ref a2)] [])) _
        refine XS.iconst X112.here hx rfl (hb hby d7_46) ?_
        exact k_)
      obtain ⟨fs, hr, hrun, hended, hW, hsame⟩ := X112.leave (v := some (.int (0 : Int32))) (fun h => by rw [Bd.returns] at h; cases h)
      refine ⟨_, _, pre114 _ ?_, hrun, hended, _, _, rfl, ?_, ⟨_, rfl⟩, hW, hsame.mono (by decide) (by decide)⟩
      · show Steps p.tables e below (T112.setTop (mkF m 47 #[.val (.ref a1), .val (.ref a2), .val (.ref a2)] [(.int (0 : Int32))])) _
        exact retN X112 hx (t := .boolean) Bd.returns (by simp) (hb hby d7_47) hr
      · show QrmE2 Z a1 a2 n1 q1 n2 q2 c1 d1 c2 d2 zc h0 n0 _ T112.heap _
        rw [e112]
        exact ⟨by rw [own_teq, if_pos hq107, if_neg hq112], N112, rfl⟩
  · skip
    have pre115 : ∀ t_, Steps p.tables e below (T107.setTop (mkF m 47 #[.val (.ref a1), .val (.ref a2), .val (.ref a2)] [(.int (0 : Int32))])) t_ → Steps p.tables e below (s₁.setTop (entryFrame m #[(.ref a1), (.ref a2)] 3)) t_ := fun t_ k_ => pre105 _ (by
      show Steps p.tables e below (T104.setTop (mkF m 22 #[.val (.ref a1), .val (.ref a2), .val (.ref a2)] [(.ref n2), (.ref n1)])) _
      refine st107.trans ?_
      show Steps p.tables e below (T107.setTop (mkF m 25 #[.val (.ref a1), .val (.ref a2), .val (.ref a2)] [(.int (0 : Int32))])) _
      refine XS.ifYes X107.here hx rfl (pc0 := 25) (pc' := 46) rfl (hb hby d7_25) rfl ((if0 _ _).trans (teq (rfl : (0 : Int32) = 0)).1) (by decide) (by decide) ?_
      show Steps p.tables e below (T107.setTop (mkF m 46 #[.val (.ref a1), .val (.ref a2), .val (.ref a2)] [])) _
      refine XS.iconst X107.here hx rfl (hb hby d7_46) ?_
      exact k_)
    obtain ⟨fs, hr, hrun, hended, hW, hsame⟩ := X107.leave (v := some (.int (0 : Int32))) (fun h => by rw [Bd.returns] at h; cases h)
    refine ⟨_, _, pre115 _ ?_, hrun, hended, _, _, rfl, ?_, ⟨_, rfl⟩, hW, hsame.mono (by decide) (by decide)⟩
    · show Steps p.tables e below (T107.setTop (mkF m 47 #[.val (.ref a1), .val (.ref a2), .val (.ref a2)] [(.int (0 : Int32))])) _
      exact retN X107 hx (t := .boolean) Bd.returns (by simp) (hb hby d7_47) hr
    · show QrmE2 Z a1 a2 n1 q1 n2 q2 c1 d1 c2 d2 zc h0 n0 _ T107.heap _
      rw [e107]
      exact ⟨by rw [own_teq, if_neg hq107], N107, rfl⟩
theorem pd_4 : parseMethodDescriptor "(ICC)Ljava/lang/String;" = some ⟨[.int, .char, .char], some (.object "java/lang/String")⟩ := by decide +kernel
theorem pd_5 : parseMethodDescriptor "(Ljava/lang/String;Ljava/lang/String;)V" = some ⟨[(.object "java/lang/String"), (.object "java/lang/String")], none⟩ := by decide +kernel
theorem pd_6 : parseMethodDescriptor "(ICCICC)Z" = some ⟨[.int, .char, .char, .int, .char, .char], some .boolean⟩ := by decide +kernel
theorem ef_rm0 (m : MethodId) (x0 : Int32) (x1 : Int32) (x2 : Int32) (x3 : Int32) (x4 : Int32) : entryFrame m #[(.int x0), (.int x1), (.int x2), (.int x3), (.int x4)] maxLocals = mkF m 0 #[.val (.int x0), .val (.int x1), .val (.int x2), .val (.int x3), .val (.int x4), .unset, .unset, .unset, .unset, .unset, .unset, .unset, .unset, .unset, .unset, .unset, .unset, .unset, .unset, .unset, .unset, .unset, .unset, .unset, .unset, .unset, .unset, .unset, .unset, .unset] [] := by first | (simp [entryFrame, mkF, argsToLocals, Value.category, maxLocals]; done) | rfl
def Qrm0 (Z : State) (p1 : Int32) (p2 : Int32) (p3 : Int32) (p4 : Int32) (p5 : Int32) (zc : Int32) (h0 : Heap) (n0 : Nat) (v : Option Value) (h : Heap) (L : List Loc) : Prop := v = some (.int 1) ∧ Fr n0 L
set_option maxRecDepth 65536 in
set_option maxHeartbeats 40000000 in
theorem rm0 (l : Launch) (Z : State) (a0 : Array Value) (hw : ∀ d ∈ tables_1, d.before a0 Z = true) (ws : List Jvm.Cond) (p1 : Int32) (p2 : Int32) (p3 : Int32) (p4 : Int32) (p5 : Int32) (zc : Int32) (h0 : Heap) (n0 : Nat) (Z0 : n0 ≤ h0.size) (O : Old Z n0 h0) (S_c : Sta Z Z.heap "java/lang/String" "COMPACT_STRINGS" "Z" (.int zc)) (hzc : ¬ zc = 0) :
    MetFree l x (head1 (Jvm.Cond.code x code maxLocals ret :: ws) room_1) (fun a U => a = #[(.int p1), (.int p2), (.int p3), (.int p4), (.int p5)] ∧ Z.Warmed39 U.vm ∧ U.heap = h0 ∧ CHv Z own_EL U.vm h0) (fun _ _ _ _ _ => True) (fun _ U o U' => ∃ v L, o = .returned v ∧ Qrm0 Z p1 p2 p3 p4 p5 zc h0 n0 v U'.heap L ∧ ReturnedEndW U o U' L room_1.cells room_1.slots) := by
  refine MetFree.of_bodySF (plainFor_of_name pn_1) hisR ?_
  intro p e s m args below meth c s₁ Bd hml0 hP hK
  obtain ⟨rfl, hZ, hh, hH⟩ := hP
  have hx := Bd.exec
  have hby := Bd.bytes
  have hml : c.maxLocals = 30 := hml0
  have hown : s.vm.findClass "com/example/cranfield/cranfield/model/TopicEqualsPinLaw" = some m.cls := findClass_of_methodNamed Bd.named
  have hnm := (name_of_methodNamed Bd.named Bd.method).1
  have X0 : Stand p l e room_1 s m #[(.int p1), (.int p2), (.int p3), (.int p4), (.int p5)] below meth c s₁ [] 0 0 := Stand.of_body Bd
  have e0 : s₁.heap = h0 := by rw [← hh, Bd.state]; rfl
  have N0 := Fr.nil n0
  have pre0 : ∀ t_, Steps p.tables e below (s₁.setTop (mkF m 0 #[.val (.int p1), .val (.int p2), .val (.int p3), .val (.int p4), .val (.int p5), .unset, .unset, .unset, .unset, .unset, .unset, .unset, .unset, .unset, .unset, .unset, .unset, .unset, .unset, .unset, .unset, .unset, .unset, .unset, .unset, .unset, .unset, .unset, .unset, .unset] [])) t_ → Steps p.tables e below (s₁.setTop (entryFrame m #[(.int p1), (.int p2), (.int p3), (.int p4), (.int p5)] maxLocals)) t_ := fun t_ k_ => castTop (ef_rm0 m p1 p2 p3 p4 p5) k_
  have pre101 : ∀ t_, Steps p.tables e below (s₁.setTop (mkF m 14 #[.val (.int p1), .val (.int p2), .val (.int p3), .val (.int p4), .val (.int p5), .val (.int ((p5 &&& (3 : Int32)) % (3 : Int32))), .unset, .unset, .unset, .unset, .unset, .unset, .unset, .unset, .unset, .unset, .unset, .unset, .unset, .unset, .unset, .unset, .unset, .unset, .unset, .unset, .unset, .unset, .unset, .unset] [(.int (((p5.toUInt32 >>> ((2 : Int32) &&& 31).toUInt32).toInt32) &&& (1 : Int32)))])) t_ → Steps p.tables e below (s₁.setTop (entryFrame m #[(.int p1), (.int p2), (.int p3), (.int p4), (.int p5)] maxLocals)) t_ := fun t_ k_ => pre0 _ (by
    show Steps p.tables e below (s₁.setTop (mkF m 0 #[.val (.int p1), .val (.int p2), .val (.int p3), .val (.int p4), .val (.int p5), .unset, .unset, .unset, .unset, .unset, .unset, .unset, .unset, .unset, .unset, .unset, .unset, .unset, .unset, .unset, .unset, .unset, .unset, .unset, .unset, .unset, .unset, .unset, .unset, .unset] [])) _
    refine XS.iload X0.here hx rfl (hb hby at_0) rfl ?_
    show Steps p.tables e below (s₁.setTop (mkF m 2 #[.val (.int p1), .val (.int p2), .val (.int p3), .val (.int p4), .val (.int p5), .unset, .unset, .unset, .unset, .unset, .unset, .unset, .unset, .unset, .unset, .unset, .unset, .unset, .unset, .unset, .unset, .unset, .unset, .unset, .unset, .unset, .unset, .unset, .unset, .unset] [(.int p5)])) _
    refine XS.iconst X0.here hx rfl (hb hby at_2) ?_
    show Steps p.tables e below (s₁.setTop (mkF m 3 #[.val (.int p1), .val (.int p2), .val (.int p3), .val (.int p4), .val (.int p5), .unset, .unset, .unset, .unset, .unset, .unset, .unset, .unset, .unset, .unset, .unset, .unset, .unset, .unset, .unset, .unset, .unset, .unset, .unset, .unset, .unset, .unset, .unset, .unset, .unset] [(.int (3 : Int32)), (.int p5)])) _
    refine XS.iand X0.here hx rfl (hb hby at_3) rfl ?_
    show Steps p.tables e below (s₁.setTop (mkF m 4 #[.val (.int p1), .val (.int p2), .val (.int p3), .val (.int p4), .val (.int p5), .unset, .unset, .unset, .unset, .unset, .unset, .unset, .unset, .unset, .unset, .unset, .unset, .unset, .unset, .unset, .unset, .unset, .unset, .unset, .unset, .unset, .unset, .unset, .unset, .unset] [(.int (p5 &&& (3 : Int32)))])) _
    refine XS.iconst X0.here hx rfl (hb hby at_4) ?_
    show Steps p.tables e below (s₁.setTop (mkF m 5 #[.val (.int p1), .val (.int p2), .val (.int p3), .val (.int p4), .val (.int p5), .unset, .unset, .unset, .unset, .unset, .unset, .unset, .unset, .unset, .unset, .unset, .unset, .unset, .unset, .unset, .unset, .unset, .unset, .unset, .unset, .unset, .unset, .unset, .unset, .unset] [(.int (3 : Int32)), (.int (p5 &&& (3 : Int32)))])) _
    refine iremM X0 hx rfl (hb hby at_5) rfl (by decide) ?_
    show Steps p.tables e below (s₁.setTop (mkF m 6 #[.val (.int p1), .val (.int p2), .val (.int p3), .val (.int p4), .val (.int p5), .unset, .unset, .unset, .unset, .unset, .unset, .unset, .unset, .unset, .unset, .unset, .unset, .unset, .unset, .unset, .unset, .unset, .unset, .unset, .unset, .unset, .unset, .unset, .unset, .unset] [(.int ((p5 &&& (3 : Int32)) % (3 : Int32)))])) _
    refine XS.istore X0.here hx rfl (hb hby at_6) rfl (l' := #[.val (.int p1), .val (.int p2), .val (.int p3), .val (.int p4), .val (.int p5), .val (.int ((p5 &&& (3 : Int32)) % (3 : Int32))), .unset, .unset, .unset, .unset, .unset, .unset, .unset, .unset, .unset, .unset, .unset, .unset, .unset, .unset, .unset, .unset, .unset, .unset, .unset, .unset, .unset, .unset, .unset, .unset]) rfl ?_
    show Steps p.tables e below (s₁.setTop (mkF m 8 #[.val (.int p1), .val (.int p2), .val (.int p3), .val (.int p4), .val (.int p5), .val (.int ((p5 &&& (3 : Int32)) % (3 : Int32))), .unset, .unset, .unset, .unset, .unset, .unset, .unset, .unset, .unset, .unset, .unset, .unset, .unset, .unset, .unset, .unset, .unset, .unset, .unset, .unset, .unset, .unset, .unset, .unset] [])) _
    refine XS.iload X0.here hx rfl (hb hby at_8) rfl ?_
    show Steps p.tables e below (s₁.setTop (mkF m 10 #[.val (.int p1), .val (.int p2), .val (.int p3), .val (.int p4), .val (.int p5), .val (.int ((p5 &&& (3 : Int32)) % (3 : Int32))), .unset, .unset, .unset, .unset, .unset, .unset, .unset, .unset, .unset, .unset, .unset, .unset, .unset, .unset, .unset, .unset, .unset, .unset, .unset, .unset, .unset, .unset, .unset, .unset] [(.int p5)])) _
    refine XS.iconst X0.here hx rfl (hb hby at_10) ?_
    show Steps p.tables e below (s₁.setTop (mkF m 11 #[.val (.int p1), .val (.int p2), .val (.int p3), .val (.int p4), .val (.int p5), .val (.int ((p5 &&& (3 : Int32)) % (3 : Int32))), .unset, .unset, .unset, .unset, .unset, .unset, .unset, .unset, .unset, .unset, .unset, .unset, .unset, .unset, .unset, .unset, .unset, .unset, .unset, .unset, .unset, .unset, .unset, .unset] [(.int (2 : Int32)), (.int p5)])) _
    refine XS.iushr X0.here hx rfl (hb hby at_11) rfl ?_
    show Steps p.tables e below (s₁.setTop (mkF m 12 #[.val (.int p1), .val (.int p2), .val (.int p3), .val (.int p4), .val (.int p5), .val (.int ((p5 &&& (3 : Int32)) % (3 : Int32))), .unset, .unset, .unset, .unset, .unset, .unset, .unset, .unset, .unset, .unset, .unset, .unset, .unset, .unset, .unset, .unset, .unset, .unset, .unset, .unset, .unset, .unset, .unset, .unset] [(.int ((p5.toUInt32 >>> ((2 : Int32) &&& 31).toUInt32).toInt32))])) _
    refine XS.iconst X0.here hx rfl (hb hby at_12) ?_
    show Steps p.tables e below (s₁.setTop (mkF m 13 #[.val (.int p1), .val (.int p2), .val (.int p3), .val (.int p4), .val (.int p5), .val (.int ((p5 &&& (3 : Int32)) % (3 : Int32))), .unset, .unset, .unset, .unset, .unset, .unset, .unset, .unset, .unset, .unset, .unset, .unset, .unset, .unset, .unset, .unset, .unset, .unset, .unset, .unset, .unset, .unset, .unset, .unset] [(.int (1 : Int32)), (.int ((p5.toUInt32 >>> ((2 : Int32) &&& 31).toUInt32).toInt32))])) _
    refine XS.iand X0.here hx rfl (hb hby at_13) rfl ?_
    exact k_)
  obtain ⟨l1, hv_l1, pre102⟩ : ∃ z_ : Int32, z_ = ((p5 &&& (3 : Int32)) % (3 : Int32)) ∧ ∀ t_, Steps p.tables e below (s₁.setTop (mkF m 14 #[.val (.int p1), .val (.int p2), .val (.int p3), .val (.int p4), .val (.int p5), .val (.int z_), .unset, .unset, .unset, .unset, .unset, .unset, .unset, .unset, .unset, .unset, .unset, .unset, .unset, .unset, .unset, .unset, .unset, .unset, .unset, .unset, .unset, .unset, .unset, .unset] [(.int (((p5.toUInt32 >>> ((2 : Int32) &&& 31).toUInt32).toInt32) &&& (1 : Int32)))])) t_ → Steps p.tables e below (s₁.setTop (entryFrame m #[(.int p1), (.int p2), (.int p3), (.int p4), (.int p5)] maxLocals)) t_ := ⟨_, rfl, fun t_ k_ => pre101 _ (by
    exact k_)⟩
  have h1 : own_l3 l1 := by rw [hv_l1]; exact own_3 p5
  obtain ⟨l2, hj_l2, pre103⟩ : ∃ l2 : Int32, (own_l3 l2) ∧ ∀ t_, Steps p.tables e below (s₁.setTop (mkF m 30 #[.val (.int p1), .val (.int p2), .val (.int p3), .val (.int p4), .val (.int p5), .val (.int l1), .unset, .unset, .unset, .unset, .unset, .unset, .unset, .unset, .unset, .unset, .unset, .unset, .unset, .unset, .unset, .unset, .unset, .unset, .unset, .unset, .unset, .unset, .unset, .unset] [(.int l2)])) t_ → Steps p.tables e below (s₁.setTop (entryFrame m #[(.int p1), (.int p2), (.int p3), (.int p4), (.int p5)] maxLocals)) t_ := by
    by_cases hf : (((p5.toUInt32 >>> ((2 : Int32) &&& 31).toUInt32).toInt32) &&& (1 : Int32)) = (0 : Int32)
    · skip
      have pre104 : ∀ t_, Steps p.tables e below (s₁.setTop (mkF m 30 #[.val (.int p1), .val (.int p2), .val (.int p3), .val (.int p4), .val (.int p5), .val (.int l1), .unset, .unset, .unset, .unset, .unset, .unset, .unset, .unset, .unset, .unset, .unset, .unset, .unset, .unset, .unset, .unset, .unset, .unset, .unset, .unset, .unset, .unset, .unset, .unset] [(.int ((((p5.toUInt32 >>> ((3 : Int32) &&& 31).toUInt32).toInt32) &&& (3 : Int32)) % (3 : Int32)))])) t_ → Steps p.tables e below (s₁.setTop (entryFrame m #[(.int p1), (.int p2), (.int p3), (.int p4), (.int p5)] maxLocals)) t_ := fun t_ k_ => pre102 _ (by
        show Steps p.tables e below (s₁.setTop (mkF m 14 #[.val (.int p1), .val (.int p2), .val (.int p3), .val (.int p4), .val (.int p5), .val (.int l1), .unset, .unset, .unset, .unset, .unset, .unset, .unset, .unset, .unset, .unset, .unset, .unset, .unset, .unset, .unset, .unset, .unset, .unset, .unset, .unset, .unset, .unset, .unset, .unset] [(.int (((p5.toUInt32 >>> ((2 : Int32) &&& 31).toUInt32).toInt32) &&& (1 : Int32)))])) _
        refine XS.ifYes X0.here hx rfl (pc0 := 14) (pc' := 22) rfl (hb hby at_14) rfl ((if0 _ _).trans (teq hf).1) (by decide) (by decide) ?_
        show Steps p.tables e below (s₁.setTop (mkF m 22 #[.val (.int p1), .val (.int p2), .val (.int p3), .val (.int p4), .val (.int p5), .val (.int l1), .unset, .unset, .unset, .unset, .unset, .unset, .unset, .unset, .unset, .unset, .unset, .unset, .unset, .unset, .unset, .unset, .unset, .unset, .unset, .unset, .unset, .unset, .unset, .unset] [])) _
        refine XS.iload X0.here hx rfl (hb hby at_22) rfl ?_
        show Steps p.tables e below (s₁.setTop (mkF m 24 #[.val (.int p1), .val (.int p2), .val (.int p3), .val (.int p4), .val (.int p5), .val (.int l1), .unset, .unset, .unset, .unset, .unset, .unset, .unset, .unset, .unset, .unset, .unset, .unset, .unset, .unset, .unset, .unset, .unset, .unset, .unset, .unset, .unset, .unset, .unset, .unset] [(.int p5)])) _
        refine XS.iconst X0.here hx rfl (hb hby at_24) ?_
        show Steps p.tables e below (s₁.setTop (mkF m 25 #[.val (.int p1), .val (.int p2), .val (.int p3), .val (.int p4), .val (.int p5), .val (.int l1), .unset, .unset, .unset, .unset, .unset, .unset, .unset, .unset, .unset, .unset, .unset, .unset, .unset, .unset, .unset, .unset, .unset, .unset, .unset, .unset, .unset, .unset, .unset, .unset] [(.int (3 : Int32)), (.int p5)])) _
        refine XS.iushr X0.here hx rfl (hb hby at_25) rfl ?_
        show Steps p.tables e below (s₁.setTop (mkF m 26 #[.val (.int p1), .val (.int p2), .val (.int p3), .val (.int p4), .val (.int p5), .val (.int l1), .unset, .unset, .unset, .unset, .unset, .unset, .unset, .unset, .unset, .unset, .unset, .unset, .unset, .unset, .unset, .unset, .unset, .unset, .unset, .unset, .unset, .unset, .unset, .unset] [(.int ((p5.toUInt32 >>> ((3 : Int32) &&& 31).toUInt32).toInt32))])) _
        refine XS.iconst X0.here hx rfl (hb hby at_26) ?_
        show Steps p.tables e below (s₁.setTop (mkF m 27 #[.val (.int p1), .val (.int p2), .val (.int p3), .val (.int p4), .val (.int p5), .val (.int l1), .unset, .unset, .unset, .unset, .unset, .unset, .unset, .unset, .unset, .unset, .unset, .unset, .unset, .unset, .unset, .unset, .unset, .unset, .unset, .unset, .unset, .unset, .unset, .unset] [(.int (3 : Int32)), (.int ((p5.toUInt32 >>> ((3 : Int32) &&& 31).toUInt32).toInt32))])) _
        refine XS.iand X0.here hx rfl (hb hby at_27) rfl ?_
        show Steps p.tables e below (s₁.setTop (mkF m 28 #[.val (.int p1), .val (.int p2), .val (.int p3), .val (.int p4), .val (.int p5), .val (.int l1), .unset, .unset, .unset, .unset, .unset, .unset, .unset, .unset, .unset, .unset, .unset, .unset, .unset, .unset, .unset, .unset, .unset, .unset, .unset, .unset, .unset, .unset, .unset, .unset] [(.int (((p5.toUInt32 >>> ((3 : Int32) &&& 31).toUInt32).toInt32) &&& (3 : Int32)))])) _
        refine XS.iconst X0.here hx rfl (hb hby at_28) ?_
        show Steps p.tables e below (s₁.setTop (mkF m 29 #[.val (.int p1), .val (.int p2), .val (.int p3), .val (.int p4), .val (.int p5), .val (.int l1), .unset, .unset, .unset, .unset, .unset, .unset, .unset, .unset, .unset, .unset, .unset, .unset, .unset, .unset, .unset, .unset, .unset, .unset, .unset, .unset, .unset, .unset, .unset, .unset] [(.int (3 : Int32)), (.int (((p5.toUInt32 >>> ((3 : Int32) &&& 31).toUInt32).toInt32) &&& (3 : Int32)))])) _
        refine iremM X0 hx rfl (hb hby at_29) rfl (by decide) ?_
        exact k_)
      exact ⟨((((p5.toUInt32 >>> ((3 : Int32) &&& 31).toUInt32).toInt32) &&& (3 : Int32)) % (3 : Int32)), own_3 _, pre104⟩
    · skip
      have pre105 : ∀ t_, Steps p.tables e below (s₁.setTop (mkF m 30 #[.val (.int p1), .val (.int p2), .val (.int p3), .val (.int p4), .val (.int p5), .val (.int l1), .unset, .unset, .unset, .unset, .unset, .unset, .unset, .unset, .unset, .unset, .unset, .unset, .unset, .unset, .unset, .unset, .unset, .unset, .unset, .unset, .unset, .unset, .unset, .unset] [(.int l1)])) t_ → Steps p.tables e below (s₁.setTop (entryFrame m #[(.int p1), (.int p2), (.int p3), (.int p4), (.int p5)] maxLocals)) t_ := fun t_ k_ => pre102 _ (by
        show Steps p.tables e below (s₁.setTop (mkF m 14 #[.val (.int p1), .val (.int p2), .val (.int p3), .val (.int p4), .val (.int p5), .val (.int l1), .unset, .unset, .unset, .unset, .unset, .unset, .unset, .unset, .unset, .unset, .unset, .unset, .unset, .unset, .unset, .unset, .unset, .unset, .unset, .unset, .unset, .unset, .unset, .unset] [(.int (((p5.toUInt32 >>> ((2 : Int32) &&& 31).toUInt32).toInt32) &&& (1 : Int32)))])) _
        refine XS.ifNo X0.here hx rfl (hb hby at_14) rfl ((if0 _ _).trans (feq hf).1) ?_
        show Steps p.tables e below (s₁.setTop (mkF m 17 #[.val (.int p1), .val (.int p2), .val (.int p3), .val (.int p4), .val (.int p5), .val (.int l1), .unset, .unset, .unset, .unset, .unset, .unset, .unset, .unset, .unset, .unset, .unset, .unset, .unset, .unset, .unset, .unset, .unset, .unset, .unset, .unset, .unset, .unset, .unset, .unset] [])) _
        refine XS.iload X0.here hx rfl (hb hby at_17) rfl ?_
        show Steps p.tables e below (s₁.setTop (mkF m 19 #[.val (.int p1), .val (.int p2), .val (.int p3), .val (.int p4), .val (.int p5), .val (.int l1), .unset, .unset, .unset, .unset, .unset, .unset, .unset, .unset, .unset, .unset, .unset, .unset, .unset, .unset, .unset, .unset, .unset, .unset, .unset, .unset, .unset, .unset, .unset, .unset] [(.int l1)])) _
        refine XS.goto X0.here hx rfl (pc0 := 19) (pc' := 30) rfl (hb hby at_19) (by decide) (by decide) ?_
        exact k_)
      exact ⟨l1, h1, pre105⟩
  have pre106 : ∀ t_, Steps p.tables e below (s₁.setTop (mkF m 49 #[.val (.int p1), .val (.int p2), .val (.int p3), .val (.int p4), .val (.int p5), .val (.int l1), .val (.int l2), .val (.int ((((p5.toUInt32 >>> ((5 : Int32) &&& 31).toUInt32).toInt32) &&& (3 : Int32)) % (3 : Int32))), .unset, .unset, .unset, .unset, .unset, .unset, .unset, .unset, .unset, .unset, .unset, .unset, .unset, .unset, .unset, .unset, .unset, .unset, .unset, .unset, .unset, .unset] [(.int (((p5.toUInt32 >>> ((7 : Int32) &&& 31).toUInt32).toInt32) &&& (1 : Int32)))])) t_ → Steps p.tables e below (s₁.setTop (entryFrame m #[(.int p1), (.int p2), (.int p3), (.int p4), (.int p5)] maxLocals)) t_ := fun t_ k_ => pre103 _ (by
    show Steps p.tables e below (s₁.setTop (mkF m 30 #[.val (.int p1), .val (.int p2), .val (.int p3), .val (.int p4), .val (.int p5), .val (.int l1), .unset, .unset, .unset, .unset, .unset, .unset, .unset, .unset, .unset, .unset, .unset, .unset, .unset, .unset, .unset, .unset, .unset, .unset, .unset, .unset, .unset, .unset, .unset, .unset] [(.int l2)])) _
    refine XS.istore X0.here hx rfl (hb hby at_30) rfl (l' := #[.val (.int p1), .val (.int p2), .val (.int p3), .val (.int p4), .val (.int p5), .val (.int l1), .val (.int l2), .unset, .unset, .unset, .unset, .unset, .unset, .unset, .unset, .unset, .unset, .unset, .unset, .unset, .unset, .unset, .unset, .unset, .unset, .unset, .unset, .unset, .unset, .unset]) rfl ?_
    show Steps p.tables e below (s₁.setTop (mkF m 32 #[.val (.int p1), .val (.int p2), .val (.int p3), .val (.int p4), .val (.int p5), .val (.int l1), .val (.int l2), .unset, .unset, .unset, .unset, .unset, .unset, .unset, .unset, .unset, .unset, .unset, .unset, .unset, .unset, .unset, .unset, .unset, .unset, .unset, .unset, .unset, .unset, .unset] [])) _
    refine XS.iload X0.here hx rfl (hb hby at_32) rfl ?_
    show Steps p.tables e below (s₁.setTop (mkF m 34 #[.val (.int p1), .val (.int p2), .val (.int p3), .val (.int p4), .val (.int p5), .val (.int l1), .val (.int l2), .unset, .unset, .unset, .unset, .unset, .unset, .unset, .unset, .unset, .unset, .unset, .unset, .unset, .unset, .unset, .unset, .unset, .unset, .unset, .unset, .unset, .unset, .unset] [(.int p5)])) _
    refine XS.iconst X0.here hx rfl (hb hby at_34) ?_
    show Steps p.tables e below (s₁.setTop (mkF m 35 #[.val (.int p1), .val (.int p2), .val (.int p3), .val (.int p4), .val (.int p5), .val (.int l1), .val (.int l2), .unset, .unset, .unset, .unset, .unset, .unset, .unset, .unset, .unset, .unset, .unset, .unset, .unset, .unset, .unset, .unset, .unset, .unset, .unset, .unset, .unset, .unset, .unset] [(.int (5 : Int32)), (.int p5)])) _
    refine XS.iushr X0.here hx rfl (hb hby at_35) rfl ?_
    show Steps p.tables e below (s₁.setTop (mkF m 36 #[.val (.int p1), .val (.int p2), .val (.int p3), .val (.int p4), .val (.int p5), .val (.int l1), .val (.int l2), .unset, .unset, .unset, .unset, .unset, .unset, .unset, .unset, .unset, .unset, .unset, .unset, .unset, .unset, .unset, .unset, .unset, .unset, .unset, .unset, .unset, .unset, .unset] [(.int ((p5.toUInt32 >>> ((5 : Int32) &&& 31).toUInt32).toInt32))])) _
    refine XS.iconst X0.here hx rfl (hb hby at_36) ?_
    show Steps p.tables e below (s₁.setTop (mkF m 37 #[.val (.int p1), .val (.int p2), .val (.int p3), .val (.int p4), .val (.int p5), .val (.int l1), .val (.int l2), .unset, .unset, .unset, .unset, .unset, .unset, .unset, .unset, .unset, .unset, .unset, .unset, .unset, .unset, .unset, .unset, .unset, .unset, .unset, .unset, .unset, .unset, .unset] [(.int (3 : Int32)), (.int ((p5.toUInt32 >>> ((5 : Int32) &&& 31).toUInt32).toInt32))])) _
    refine XS.iand X0.here hx rfl (hb hby at_37) rfl ?_
    show Steps p.tables e below (s₁.setTop (mkF m 38 #[.val (.int p1), .val (.int p2), .val (.int p3), .val (.int p4), .val (.int p5), .val (.int l1), .val (.int l2), .unset, .unset, .unset, .unset, .unset, .unset, .unset, .unset, .unset, .unset, .unset, .unset, .unset, .unset, .unset, .unset, .unset, .unset, .unset, .unset, .unset, .unset, .unset] [(.int (((p5.toUInt32 >>> ((5 : Int32) &&& 31).toUInt32).toInt32) &&& (3 : Int32)))])) _
    refine XS.iconst X0.here hx rfl (hb hby at_38) ?_
    show Steps p.tables e below (s₁.setTop (mkF m 39 #[.val (.int p1), .val (.int p2), .val (.int p3), .val (.int p4), .val (.int p5), .val (.int l1), .val (.int l2), .unset, .unset, .unset, .unset, .unset, .unset, .unset, .unset, .unset, .unset, .unset, .unset, .unset, .unset, .unset, .unset, .unset, .unset, .unset, .unset, .unset, .unset, .unset] [(.int (3 : Int32)), (.int (((p5.toUInt32 >>> ((5 : Int32) &&& 31).toUInt32).toInt32) &&& (3 : Int32)))])) _
    refine iremM X0 hx rfl (hb hby at_39) rfl (by decide) ?_
    show Steps p.tables e below (s₁.setTop (mkF m 40 #[.val (.int p1), .val (.int p2), .val (.int p3), .val (.int p4), .val (.int p5), .val (.int l1), .val (.int l2), .unset, .unset, .unset, .unset, .unset, .unset, .unset, .unset, .unset, .unset, .unset, .unset, .unset, .unset, .unset, .unset, .unset, .unset, .unset, .unset, .unset, .unset, .unset] [(.int ((((p5.toUInt32 >>> ((5 : Int32) &&& 31).toUInt32).toInt32) &&& (3 : Int32)) % (3 : Int32)))])) _
    refine XS.istore X0.here hx rfl (hb hby at_40) rfl (l' := #[.val (.int p1), .val (.int p2), .val (.int p3), .val (.int p4), .val (.int p5), .val (.int l1), .val (.int l2), .val (.int ((((p5.toUInt32 >>> ((5 : Int32) &&& 31).toUInt32).toInt32) &&& (3 : Int32)) % (3 : Int32))), .unset, .unset, .unset, .unset, .unset, .unset, .unset, .unset, .unset, .unset, .unset, .unset, .unset, .unset, .unset, .unset, .unset, .unset, .unset, .unset, .unset, .unset]) rfl ?_
    show Steps p.tables e below (s₁.setTop (mkF m 42 #[.val (.int p1), .val (.int p2), .val (.int p3), .val (.int p4), .val (.int p5), .val (.int l1), .val (.int l2), .val (.int ((((p5.toUInt32 >>> ((5 : Int32) &&& 31).toUInt32).toInt32) &&& (3 : Int32)) % (3 : Int32))), .unset, .unset, .unset, .unset, .unset, .unset, .unset, .unset, .unset, .unset, .unset, .unset, .unset, .unset, .unset, .unset, .unset, .unset, .unset, .unset, .unset, .unset] [])) _
    refine XS.iload X0.here hx rfl (hb hby at_42) rfl ?_
    show Steps p.tables e below (s₁.setTop (mkF m 44 #[.val (.int p1), .val (.int p2), .val (.int p3), .val (.int p4), .val (.int p5), .val (.int l1), .val (.int l2), .val (.int ((((p5.toUInt32 >>> ((5 : Int32) &&& 31).toUInt32).toInt32) &&& (3 : Int32)) % (3 : Int32))), .unset, .unset, .unset, .unset, .unset, .unset, .unset, .unset, .unset, .unset, .unset, .unset, .unset, .unset, .unset, .unset, .unset, .unset, .unset, .unset, .unset, .unset] [(.int p5)])) _
    refine XS.bipush X0.here hx rfl (hb hby at_44) ?_
    show Steps p.tables e below (s₁.setTop (mkF m 46 #[.val (.int p1), .val (.int p2), .val (.int p3), .val (.int p4), .val (.int p5), .val (.int l1), .val (.int l2), .val (.int ((((p5.toUInt32 >>> ((5 : Int32) &&& 31).toUInt32).toInt32) &&& (3 : Int32)) % (3 : Int32))), .unset, .unset, .unset, .unset, .unset, .unset, .unset, .unset, .unset, .unset, .unset, .unset, .unset, .unset, .unset, .unset, .unset, .unset, .unset, .unset, .unset, .unset] [(.int (7 : Int32)), (.int p5)])) _
    refine XS.iushr X0.here hx rfl (hb hby at_46) rfl ?_
    show Steps p.tables e below (s₁.setTop (mkF m 47 #[.val (.int p1), .val (.int p2), .val (.int p3), .val (.int p4), .val (.int p5), .val (.int l1), .val (.int l2), .val (.int ((((p5.toUInt32 >>> ((5 : Int32) &&& 31).toUInt32).toInt32) &&& (3 : Int32)) % (3 : Int32))), .unset, .unset, .unset, .unset, .unset, .unset, .unset, .unset, .unset, .unset, .unset, .unset, .unset, .unset, .unset, .unset, .unset, .unset, .unset, .unset, .unset, .unset] [(.int ((p5.toUInt32 >>> ((7 : Int32) &&& 31).toUInt32).toInt32))])) _
    refine XS.iconst X0.here hx rfl (hb hby at_47) ?_
    show Steps p.tables e below (s₁.setTop (mkF m 48 #[.val (.int p1), .val (.int p2), .val (.int p3), .val (.int p4), .val (.int p5), .val (.int l1), .val (.int l2), .val (.int ((((p5.toUInt32 >>> ((5 : Int32) &&& 31).toUInt32).toInt32) &&& (3 : Int32)) % (3 : Int32))), .unset, .unset, .unset, .unset, .unset, .unset, .unset, .unset, .unset, .unset, .unset, .unset, .unset, .unset, .unset, .unset, .unset, .unset, .unset, .unset, .unset, .unset] [(.int (1 : Int32)), (.int ((p5.toUInt32 >>> ((7 : Int32) &&& 31).toUInt32).toInt32))])) _
    refine XS.iand X0.here hx rfl (hb hby at_48) rfl ?_
    exact k_)
  obtain ⟨l3, hv_l3, pre107⟩ : ∃ z_ : Int32, z_ = ((((p5.toUInt32 >>> ((5 : Int32) &&& 31).toUInt32).toInt32) &&& (3 : Int32)) % (3 : Int32)) ∧ ∀ t_, Steps p.tables e below (s₁.setTop (mkF m 49 #[.val (.int p1), .val (.int p2), .val (.int p3), .val (.int p4), .val (.int p5), .val (.int l1), .val (.int l2), .val (.int z_), .unset, .unset, .unset, .unset, .unset, .unset, .unset, .unset, .unset, .unset, .unset, .unset, .unset, .unset, .unset, .unset, .unset, .unset, .unset, .unset, .unset, .unset] [(.int (((p5.toUInt32 >>> ((7 : Int32) &&& 31).toUInt32).toInt32) &&& (1 : Int32)))])) t_ → Steps p.tables e below (s₁.setTop (entryFrame m #[(.int p1), (.int p2), (.int p3), (.int p4), (.int p5)] maxLocals)) t_ := ⟨_, rfl, fun t_ k_ => pre106 _ (by
    exact k_)⟩
  have h3 : own_l3 l3 := by rw [hv_l3]; exact own_3 _
  obtain ⟨l4, hj_l4, pre108⟩ : ∃ l4 : Int32, (own_l3 l4) ∧ ∀ t_, Steps p.tables e below (s₁.setTop (mkF m 66 #[.val (.int p1), .val (.int p2), .val (.int p3), .val (.int p4), .val (.int p5), .val (.int l1), .val (.int l2), .val (.int l3), .unset, .unset, .unset, .unset, .unset, .unset, .unset, .unset, .unset, .unset, .unset, .unset, .unset, .unset, .unset, .unset, .unset, .unset, .unset, .unset, .unset, .unset] [(.int l4)])) t_ → Steps p.tables e below (s₁.setTop (entryFrame m #[(.int p1), (.int p2), (.int p3), (.int p4), (.int p5)] maxLocals)) t_ := by
    by_cases hf : (((p5.toUInt32 >>> ((7 : Int32) &&& 31).toUInt32).toInt32) &&& (1 : Int32)) = (0 : Int32)
    · skip
      have pre109 : ∀ t_, Steps p.tables e below (s₁.setTop (mkF m 66 #[.val (.int p1), .val (.int p2), .val (.int p3), .val (.int p4), .val (.int p5), .val (.int l1), .val (.int l2), .val (.int l3), .unset, .unset, .unset, .unset, .unset, .unset, .unset, .unset, .unset, .unset, .unset, .unset, .unset, .unset, .unset, .unset, .unset, .unset, .unset, .unset, .unset, .unset] [(.int ((((p5.toUInt32 >>> ((8 : Int32) &&& 31).toUInt32).toInt32) &&& (3 : Int32)) % (3 : Int32)))])) t_ → Steps p.tables e below (s₁.setTop (entryFrame m #[(.int p1), (.int p2), (.int p3), (.int p4), (.int p5)] maxLocals)) t_ := fun t_ k_ => pre107 _ (by
        show Steps p.tables e below (s₁.setTop (mkF m 49 #[.val (.int p1), .val (.int p2), .val (.int p3), .val (.int p4), .val (.int p5), .val (.int l1), .val (.int l2), .val (.int l3), .unset, .unset, .unset, .unset, .unset, .unset, .unset, .unset, .unset, .unset, .unset, .unset, .unset, .unset, .unset, .unset, .unset, .unset, .unset, .unset, .unset, .unset] [(.int (((p5.toUInt32 >>> ((7 : Int32) &&& 31).toUInt32).toInt32) &&& (1 : Int32)))])) _
        refine XS.ifYes X0.here hx rfl (pc0 := 49) (pc' := 57) rfl (hb hby at_49) rfl ((if0 _ _).trans (teq hf).1) (by decide) (by decide) ?_
        show Steps p.tables e below (s₁.setTop (mkF m 57 #[.val (.int p1), .val (.int p2), .val (.int p3), .val (.int p4), .val (.int p5), .val (.int l1), .val (.int l2), .val (.int l3), .unset, .unset, .unset, .unset, .unset, .unset, .unset, .unset, .unset, .unset, .unset, .unset, .unset, .unset, .unset, .unset, .unset, .unset, .unset, .unset, .unset, .unset] [])) _
        refine XS.iload X0.here hx rfl (hb hby at_57) rfl ?_
        show Steps p.tables e below (s₁.setTop (mkF m 59 #[.val (.int p1), .val (.int p2), .val (.int p3), .val (.int p4), .val (.int p5), .val (.int l1), .val (.int l2), .val (.int l3), .unset, .unset, .unset, .unset, .unset, .unset, .unset, .unset, .unset, .unset, .unset, .unset, .unset, .unset, .unset, .unset, .unset, .unset, .unset, .unset, .unset, .unset] [(.int p5)])) _
        refine XS.bipush X0.here hx rfl (hb hby at_59) ?_
        show Steps p.tables e below (s₁.setTop (mkF m 61 #[.val (.int p1), .val (.int p2), .val (.int p3), .val (.int p4), .val (.int p5), .val (.int l1), .val (.int l2), .val (.int l3), .unset, .unset, .unset, .unset, .unset, .unset, .unset, .unset, .unset, .unset, .unset, .unset, .unset, .unset, .unset, .unset, .unset, .unset, .unset, .unset, .unset, .unset] [(.int (8 : Int32)), (.int p5)])) _
        refine XS.iushr X0.here hx rfl (hb hby at_61) rfl ?_
        show Steps p.tables e below (s₁.setTop (mkF m 62 #[.val (.int p1), .val (.int p2), .val (.int p3), .val (.int p4), .val (.int p5), .val (.int l1), .val (.int l2), .val (.int l3), .unset, .unset, .unset, .unset, .unset, .unset, .unset, .unset, .unset, .unset, .unset, .unset, .unset, .unset, .unset, .unset, .unset, .unset, .unset, .unset, .unset, .unset] [(.int ((p5.toUInt32 >>> ((8 : Int32) &&& 31).toUInt32).toInt32))])) _
        refine XS.iconst X0.here hx rfl (hb hby at_62) ?_
        show Steps p.tables e below (s₁.setTop (mkF m 63 #[.val (.int p1), .val (.int p2), .val (.int p3), .val (.int p4), .val (.int p5), .val (.int l1), .val (.int l2), .val (.int l3), .unset, .unset, .unset, .unset, .unset, .unset, .unset, .unset, .unset, .unset, .unset, .unset, .unset, .unset, .unset, .unset, .unset, .unset, .unset, .unset, .unset, .unset] [(.int (3 : Int32)), (.int ((p5.toUInt32 >>> ((8 : Int32) &&& 31).toUInt32).toInt32))])) _
        refine XS.iand X0.here hx rfl (hb hby at_63) rfl ?_
        show Steps p.tables e below (s₁.setTop (mkF m 64 #[.val (.int p1), .val (.int p2), .val (.int p3), .val (.int p4), .val (.int p5), .val (.int l1), .val (.int l2), .val (.int l3), .unset, .unset, .unset, .unset, .unset, .unset, .unset, .unset, .unset, .unset, .unset, .unset, .unset, .unset, .unset, .unset, .unset, .unset, .unset, .unset, .unset, .unset] [(.int (((p5.toUInt32 >>> ((8 : Int32) &&& 31).toUInt32).toInt32) &&& (3 : Int32)))])) _
        refine XS.iconst X0.here hx rfl (hb hby at_64) ?_
        show Steps p.tables e below (s₁.setTop (mkF m 65 #[.val (.int p1), .val (.int p2), .val (.int p3), .val (.int p4), .val (.int p5), .val (.int l1), .val (.int l2), .val (.int l3), .unset, .unset, .unset, .unset, .unset, .unset, .unset, .unset, .unset, .unset, .unset, .unset, .unset, .unset, .unset, .unset, .unset, .unset, .unset, .unset, .unset, .unset] [(.int (3 : Int32)), (.int (((p5.toUInt32 >>> ((8 : Int32) &&& 31).toUInt32).toInt32) &&& (3 : Int32)))])) _
        refine iremM X0 hx rfl (hb hby at_65) rfl (by decide) ?_
        exact k_)
      exact ⟨((((p5.toUInt32 >>> ((8 : Int32) &&& 31).toUInt32).toInt32) &&& (3 : Int32)) % (3 : Int32)), own_3 _, pre109⟩
    · skip
      have pre110 : ∀ t_, Steps p.tables e below (s₁.setTop (mkF m 66 #[.val (.int p1), .val (.int p2), .val (.int p3), .val (.int p4), .val (.int p5), .val (.int l1), .val (.int l2), .val (.int l3), .unset, .unset, .unset, .unset, .unset, .unset, .unset, .unset, .unset, .unset, .unset, .unset, .unset, .unset, .unset, .unset, .unset, .unset, .unset, .unset, .unset, .unset] [(.int l3)])) t_ → Steps p.tables e below (s₁.setTop (entryFrame m #[(.int p1), (.int p2), (.int p3), (.int p4), (.int p5)] maxLocals)) t_ := fun t_ k_ => pre107 _ (by
        show Steps p.tables e below (s₁.setTop (mkF m 49 #[.val (.int p1), .val (.int p2), .val (.int p3), .val (.int p4), .val (.int p5), .val (.int l1), .val (.int l2), .val (.int l3), .unset, .unset, .unset, .unset, .unset, .unset, .unset, .unset, .unset, .unset, .unset, .unset, .unset, .unset, .unset, .unset, .unset, .unset, .unset, .unset, .unset, .unset] [(.int (((p5.toUInt32 >>> ((7 : Int32) &&& 31).toUInt32).toInt32) &&& (1 : Int32)))])) _
        refine XS.ifNo X0.here hx rfl (hb hby at_49) rfl ((if0 _ _).trans (feq hf).1) ?_
        show Steps p.tables e below (s₁.setTop (mkF m 52 #[.val (.int p1), .val (.int p2), .val (.int p3), .val (.int p4), .val (.int p5), .val (.int l1), .val (.int l2), .val (.int l3), .unset, .unset, .unset, .unset, .unset, .unset, .unset, .unset, .unset, .unset, .unset, .unset, .unset, .unset, .unset, .unset, .unset, .unset, .unset, .unset, .unset, .unset] [])) _
        refine XS.iload X0.here hx rfl (hb hby at_52) rfl ?_
        show Steps p.tables e below (s₁.setTop (mkF m 54 #[.val (.int p1), .val (.int p2), .val (.int p3), .val (.int p4), .val (.int p5), .val (.int l1), .val (.int l2), .val (.int l3), .unset, .unset, .unset, .unset, .unset, .unset, .unset, .unset, .unset, .unset, .unset, .unset, .unset, .unset, .unset, .unset, .unset, .unset, .unset, .unset, .unset, .unset] [(.int l3)])) _
        refine XS.goto X0.here hx rfl (pc0 := 54) (pc' := 66) rfl (hb hby at_54) (by decide) (by decide) ?_
        exact k_)
      exact ⟨l3, h3, pre110⟩
  have pre111 : ∀ t_, Steps p.tables e below (s₁.setTop (mkF m 75 #[.val (.int p1), .val (.int p2), .val (.int p3), .val (.int p4), .val (.int p5), .val (.int l1), .val (.int l2), .val (.int l3), .val (.int l4), .unset, .unset, .unset, .unset, .unset, .unset, .unset, .unset, .unset, .unset, .unset, .unset, .unset, .unset, .unset, .unset, .unset, .unset, .unset, .unset, .unset] [(.int (((p5.toUInt32 >>> ((10 : Int32) &&& 31).toUInt32).toInt32) &&& (1 : Int32)))])) t_ → Steps p.tables e below (s₁.setTop (entryFrame m #[(.int p1), (.int p2), (.int p3), (.int p4), (.int p5)] maxLocals)) t_ := fun t_ k_ => pre108 _ (by
    show Steps p.tables e below (s₁.setTop (mkF m 66 #[.val (.int p1), .val (.int p2), .val (.int p3), .val (.int p4), .val (.int p5), .val (.int l1), .val (.int l2), .val (.int l3), .unset, .unset, .unset, .unset, .unset, .unset, .unset, .unset, .unset, .unset, .unset, .unset, .unset, .unset, .unset, .unset, .unset, .unset, .unset, .unset, .unset, .unset] [(.int l4)])) _
    refine XS.istore X0.here hx rfl (hb hby at_66) rfl (l' := #[.val (.int p1), .val (.int p2), .val (.int p3), .val (.int p4), .val (.int p5), .val (.int l1), .val (.int l2), .val (.int l3), .val (.int l4), .unset, .unset, .unset, .unset, .unset, .unset, .unset, .unset, .unset, .unset, .unset, .unset, .unset, .unset, .unset, .unset, .unset, .unset, .unset, .unset, .unset]) rfl ?_
    show Steps p.tables e below (s₁.setTop (mkF m 68 #[.val (.int p1), .val (.int p2), .val (.int p3), .val (.int p4), .val (.int p5), .val (.int l1), .val (.int l2), .val (.int l3), .val (.int l4), .unset, .unset, .unset, .unset, .unset, .unset, .unset, .unset, .unset, .unset, .unset, .unset, .unset, .unset, .unset, .unset, .unset, .unset, .unset, .unset, .unset] [])) _
    refine XS.iload X0.here hx rfl (hb hby at_68) rfl ?_
    show Steps p.tables e below (s₁.setTop (mkF m 70 #[.val (.int p1), .val (.int p2), .val (.int p3), .val (.int p4), .val (.int p5), .val (.int l1), .val (.int l2), .val (.int l3), .val (.int l4), .unset, .unset, .unset, .unset, .unset, .unset, .unset, .unset, .unset, .unset, .unset, .unset, .unset, .unset, .unset, .unset, .unset, .unset, .unset, .unset, .unset] [(.int p5)])) _
    refine XS.bipush X0.here hx rfl (hb hby at_70) ?_
    show Steps p.tables e below (s₁.setTop (mkF m 72 #[.val (.int p1), .val (.int p2), .val (.int p3), .val (.int p4), .val (.int p5), .val (.int l1), .val (.int l2), .val (.int l3), .val (.int l4), .unset, .unset, .unset, .unset, .unset, .unset, .unset, .unset, .unset, .unset, .unset, .unset, .unset, .unset, .unset, .unset, .unset, .unset, .unset, .unset, .unset] [(.int (10 : Int32)), (.int p5)])) _
    refine XS.iushr X0.here hx rfl (hb hby at_72) rfl ?_
    show Steps p.tables e below (s₁.setTop (mkF m 73 #[.val (.int p1), .val (.int p2), .val (.int p3), .val (.int p4), .val (.int p5), .val (.int l1), .val (.int l2), .val (.int l3), .val (.int l4), .unset, .unset, .unset, .unset, .unset, .unset, .unset, .unset, .unset, .unset, .unset, .unset, .unset, .unset, .unset, .unset, .unset, .unset, .unset, .unset, .unset] [(.int ((p5.toUInt32 >>> ((10 : Int32) &&& 31).toUInt32).toInt32))])) _
    refine XS.iconst X0.here hx rfl (hb hby at_73) ?_
    show Steps p.tables e below (s₁.setTop (mkF m 74 #[.val (.int p1), .val (.int p2), .val (.int p3), .val (.int p4), .val (.int p5), .val (.int l1), .val (.int l2), .val (.int l3), .val (.int l4), .unset, .unset, .unset, .unset, .unset, .unset, .unset, .unset, .unset, .unset, .unset, .unset, .unset, .unset, .unset, .unset, .unset, .unset, .unset, .unset, .unset] [(.int (1 : Int32)), (.int ((p5.toUInt32 >>> ((10 : Int32) &&& 31).toUInt32).toInt32))])) _
    refine XS.iand X0.here hx rfl (hb hby at_74) rfl ?_
    exact k_)
  obtain ⟨s1, hj_s1, pre112⟩ : ∃ s1 : Int32, (True) ∧ ∀ t_, Steps p.tables e below (s₁.setTop (mkF m 83 #[.val (.int p1), .val (.int p2), .val (.int p3), .val (.int p4), .val (.int p5), .val (.int l1), .val (.int l2), .val (.int l3), .val (.int l4), .unset, .unset, .unset, .unset, .unset, .unset, .unset, .unset, .unset, .unset, .unset, .unset, .unset, .unset, .unset, .unset, .unset, .unset, .unset, .unset, .unset] [(.int s1)])) t_ → Steps p.tables e below (s₁.setTop (entryFrame m #[(.int p1), (.int p2), (.int p3), (.int p4), (.int p5)] maxLocals)) t_ := by
    by_cases hf : (((p5.toUInt32 >>> ((10 : Int32) &&& 31).toUInt32).toInt32) &&& (1 : Int32)) = (0 : Int32)
    · skip
      have pre113 : ∀ t_, Steps p.tables e below (s₁.setTop (mkF m 83 #[.val (.int p1), .val (.int p2), .val (.int p3), .val (.int p4), .val (.int p5), .val (.int l1), .val (.int l2), .val (.int l3), .val (.int l4), .unset, .unset, .unset, .unset, .unset, .unset, .unset, .unset, .unset, .unset, .unset, .unset, .unset, .unset, .unset, .unset, .unset, .unset, .unset, .unset, .unset] [(.int (0 : Int32))])) t_ → Steps p.tables e below (s₁.setTop (entryFrame m #[(.int p1), (.int p2), (.int p3), (.int p4), (.int p5)] maxLocals)) t_ := fun t_ k_ => pre111 _ (by
        show Steps p.tables e below (s₁.setTop (mkF m 75 #[.val (.int p1), .val (.int p2), .val (.int p3), .val (.int p4), .val (.int p5), .val (.int l1), .val (.int l2), .val (.int l3), .val (.int l4), .unset, .unset, .unset, .unset, .unset, .unset, .unset, .unset, .unset, .unset, .unset, .unset, .unset, .unset, .unset, .unset, .unset, .unset, .unset, .unset, .unset] [(.int (((p5.toUInt32 >>> ((10 : Int32) &&& 31).toUInt32).toInt32) &&& (1 : Int32)))])) _
        refine XS.ifYes X0.here hx rfl (pc0 := 75) (pc' := 82) rfl (hb hby at_75) rfl ((if0 _ _).trans (teq hf).1) (by decide) (by decide) ?_
        show Steps p.tables e below (s₁.setTop (mkF m 82 #[.val (.int p1), .val (.int p2), .val (.int p3), .val (.int p4), .val (.int p5), .val (.int l1), .val (.int l2), .val (.int l3), .val (.int l4), .unset, .unset, .unset, .unset, .unset, .unset, .unset, .unset, .unset, .unset, .unset, .unset, .unset, .unset, .unset, .unset, .unset, .unset, .unset, .unset, .unset] [])) _
        refine XS.iconst X0.here hx rfl (hb hby at_82) ?_
        exact k_)
      exact ⟨(0 : Int32), trivial, pre113⟩
    · skip
      have pre114 : ∀ t_, Steps p.tables e below (s₁.setTop (mkF m 83 #[.val (.int p1), .val (.int p2), .val (.int p3), .val (.int p4), .val (.int p5), .val (.int l1), .val (.int l2), .val (.int l3), .val (.int l4), .unset, .unset, .unset, .unset, .unset, .unset, .unset, .unset, .unset, .unset, .unset, .unset, .unset, .unset, .unset, .unset, .unset, .unset, .unset, .unset, .unset] [(.int (1 : Int32))])) t_ → Steps p.tables e below (s₁.setTop (entryFrame m #[(.int p1), (.int p2), (.int p3), (.int p4), (.int p5)] maxLocals)) t_ := fun t_ k_ => pre111 _ (by
        show Steps p.tables e below (s₁.setTop (mkF m 75 #[.val (.int p1), .val (.int p2), .val (.int p3), .val (.int p4), .val (.int p5), .val (.int l1), .val (.int l2), .val (.int l3), .val (.int l4), .unset, .unset, .unset, .unset, .unset, .unset, .unset, .unset, .unset, .unset, .unset, .unset, .unset, .unset, .unset, .unset, .unset, .unset, .unset, .unset, .unset] [(.int (((p5.toUInt32 >>> ((10 : Int32) &&& 31).toUInt32).toInt32) &&& (1 : Int32)))])) _
        refine XS.ifNo X0.here hx rfl (hb hby at_75) rfl ((if0 _ _).trans (feq hf).1) ?_
        show Steps p.tables e below (s₁.setTop (mkF m 78 #[.val (.int p1), .val (.int p2), .val (.int p3), .val (.int p4), .val (.int p5), .val (.int l1), .val (.int l2), .val (.int l3), .val (.int l4), .unset, .unset, .unset, .unset, .unset, .unset, .unset, .unset, .unset, .unset, .unset, .unset, .unset, .unset, .unset, .unset, .unset, .unset, .unset, .unset, .unset] [])) _
        refine XS.iconst X0.here hx rfl (hb hby at_78) ?_
        show Steps p.tables e below (s₁.setTop (mkF m 79 #[.val (.int p1), .val (.int p2), .val (.int p3), .val (.int p4), .val (.int p5), .val (.int l1), .val (.int l2), .val (.int l3), .val (.int l4), .unset, .unset, .unset, .unset, .unset, .unset, .unset, .unset, .unset, .unset, .unset, .unset, .unset, .unset, .unset, .unset, .unset, .unset, .unset, .unset, .unset] [(.int (1 : Int32))])) _
        refine XS.goto X0.here hx rfl (pc0 := 79) (pc' := 83) rfl (hb hby at_79) (by decide) (by decide) ?_
        exact k_)
      exact ⟨(1 : Int32), trivial, pre114⟩
  have pre115 : ∀ t_, Steps p.tables e below (s₁.setTop (mkF m 92 #[.val (.int p1), .val (.int p2), .val (.int p3), .val (.int p4), .val (.int p5), .val (.int l1), .val (.int l2), .val (.int l3), .val (.int l4), .val (.int s1), .unset, .unset, .unset, .unset, .unset, .unset, .unset, .unset, .unset, .unset, .unset, .unset, .unset, .unset, .unset, .unset, .unset, .unset, .unset, .unset] [(.int (((p5.toUInt32 >>> ((11 : Int32) &&& 31).toUInt32).toInt32) &&& (1 : Int32)))])) t_ → Steps p.tables e below (s₁.setTop (entryFrame m #[(.int p1), (.int p2), (.int p3), (.int p4), (.int p5)] maxLocals)) t_ := fun t_ k_ => pre112 _ (by
    show Steps p.tables e below (s₁.setTop (mkF m 83 #[.val (.int p1), .val (.int p2), .val (.int p3), .val (.int p4), .val (.int p5), .val (.int l1), .val (.int l2), .val (.int l3), .val (.int l4), .unset, .unset, .unset, .unset, .unset, .unset, .unset, .unset, .unset, .unset, .unset, .unset, .unset, .unset, .unset, .unset, .unset, .unset, .unset, .unset, .unset] [(.int s1)])) _
    refine XS.istore X0.here hx rfl (hb hby at_83) rfl (l' := #[.val (.int p1), .val (.int p2), .val (.int p3), .val (.int p4), .val (.int p5), .val (.int l1), .val (.int l2), .val (.int l3), .val (.int l4), .val (.int s1), .unset, .unset, .unset, .unset, .unset, .unset, .unset, .unset, .unset, .unset, .unset, .unset, .unset, .unset, .unset, .unset, .unset, .unset, .unset, .unset]) rfl ?_
    show Steps p.tables e below (s₁.setTop (mkF m 85 #[.val (.int p1), .val (.int p2), .val (.int p3), .val (.int p4), .val (.int p5), .val (.int l1), .val (.int l2), .val (.int l3), .val (.int l4), .val (.int s1), .unset, .unset, .unset, .unset, .unset, .unset, .unset, .unset, .unset, .unset, .unset, .unset, .unset, .unset, .unset, .unset, .unset, .unset, .unset, .unset] [])) _
    refine XS.iload X0.here hx rfl (hb hby at_85) rfl ?_
    show Steps p.tables e below (s₁.setTop (mkF m 87 #[.val (.int p1), .val (.int p2), .val (.int p3), .val (.int p4), .val (.int p5), .val (.int l1), .val (.int l2), .val (.int l3), .val (.int l4), .val (.int s1), .unset, .unset, .unset, .unset, .unset, .unset, .unset, .unset, .unset, .unset, .unset, .unset, .unset, .unset, .unset, .unset, .unset, .unset, .unset, .unset] [(.int p5)])) _
    refine XS.bipush X0.here hx rfl (hb hby at_87) ?_
    show Steps p.tables e below (s₁.setTop (mkF m 89 #[.val (.int p1), .val (.int p2), .val (.int p3), .val (.int p4), .val (.int p5), .val (.int l1), .val (.int l2), .val (.int l3), .val (.int l4), .val (.int s1), .unset, .unset, .unset, .unset, .unset, .unset, .unset, .unset, .unset, .unset, .unset, .unset, .unset, .unset, .unset, .unset, .unset, .unset, .unset, .unset] [(.int (11 : Int32)), (.int p5)])) _
    refine XS.iushr X0.here hx rfl (hb hby at_89) rfl ?_
    show Steps p.tables e below (s₁.setTop (mkF m 90 #[.val (.int p1), .val (.int p2), .val (.int p3), .val (.int p4), .val (.int p5), .val (.int l1), .val (.int l2), .val (.int l3), .val (.int l4), .val (.int s1), .unset, .unset, .unset, .unset, .unset, .unset, .unset, .unset, .unset, .unset, .unset, .unset, .unset, .unset, .unset, .unset, .unset, .unset, .unset, .unset] [(.int ((p5.toUInt32 >>> ((11 : Int32) &&& 31).toUInt32).toInt32))])) _
    refine XS.iconst X0.here hx rfl (hb hby at_90) ?_
    show Steps p.tables e below (s₁.setTop (mkF m 91 #[.val (.int p1), .val (.int p2), .val (.int p3), .val (.int p4), .val (.int p5), .val (.int l1), .val (.int l2), .val (.int l3), .val (.int l4), .val (.int s1), .unset, .unset, .unset, .unset, .unset, .unset, .unset, .unset, .unset, .unset, .unset, .unset, .unset, .unset, .unset, .unset, .unset, .unset, .unset, .unset] [(.int (1 : Int32)), (.int ((p5.toUInt32 >>> ((11 : Int32) &&& 31).toUInt32).toInt32))])) _
    refine XS.iand X0.here hx rfl (hb hby at_91) rfl ?_
    exact k_)
  obtain ⟨s2, hj_s2, pre116⟩ : ∃ s2 : Int32, (True) ∧ ∀ t_, Steps p.tables e below (s₁.setTop (mkF m 100 #[.val (.int p1), .val (.int p2), .val (.int p3), .val (.int p4), .val (.int p5), .val (.int l1), .val (.int l2), .val (.int l3), .val (.int l4), .val (.int s1), .unset, .unset, .unset, .unset, .unset, .unset, .unset, .unset, .unset, .unset, .unset, .unset, .unset, .unset, .unset, .unset, .unset, .unset, .unset, .unset] [(.int s2)])) t_ → Steps p.tables e below (s₁.setTop (entryFrame m #[(.int p1), (.int p2), (.int p3), (.int p4), (.int p5)] maxLocals)) t_ := by
    by_cases hf : (((p5.toUInt32 >>> ((11 : Int32) &&& 31).toUInt32).toInt32) &&& (1 : Int32)) = (0 : Int32)
    · skip
      have pre117 : ∀ t_, Steps p.tables e below (s₁.setTop (mkF m 100 #[.val (.int p1), .val (.int p2), .val (.int p3), .val (.int p4), .val (.int p5), .val (.int l1), .val (.int l2), .val (.int l3), .val (.int l4), .val (.int s1), .unset, .unset, .unset, .unset, .unset, .unset, .unset, .unset, .unset, .unset, .unset, .unset, .unset, .unset, .unset, .unset, .unset, .unset, .unset, .unset] [(.int (0 : Int32))])) t_ → Steps p.tables e below (s₁.setTop (entryFrame m #[(.int p1), (.int p2), (.int p3), (.int p4), (.int p5)] maxLocals)) t_ := fun t_ k_ => pre115 _ (by
        show Steps p.tables e below (s₁.setTop (mkF m 92 #[.val (.int p1), .val (.int p2), .val (.int p3), .val (.int p4), .val (.int p5), .val (.int l1), .val (.int l2), .val (.int l3), .val (.int l4), .val (.int s1), .unset, .unset, .unset, .unset, .unset, .unset, .unset, .unset, .unset, .unset, .unset, .unset, .unset, .unset, .unset, .unset, .unset, .unset, .unset, .unset] [(.int (((p5.toUInt32 >>> ((11 : Int32) &&& 31).toUInt32).toInt32) &&& (1 : Int32)))])) _
        refine XS.ifYes X0.here hx rfl (pc0 := 92) (pc' := 99) rfl (hb hby at_92) rfl ((if0 _ _).trans (teq hf).1) (by decide) (by decide) ?_
        show Steps p.tables e below (s₁.setTop (mkF m 99 #[.val (.int p1), .val (.int p2), .val (.int p3), .val (.int p4), .val (.int p5), .val (.int l1), .val (.int l2), .val (.int l3), .val (.int l4), .val (.int s1), .unset, .unset, .unset, .unset, .unset, .unset, .unset, .unset, .unset, .unset, .unset, .unset, .unset, .unset, .unset, .unset, .unset, .unset, .unset, .unset] [])) _
        refine XS.iconst X0.here hx rfl (hb hby at_99) ?_
        exact k_)
      exact ⟨(0 : Int32), trivial, pre117⟩
    · skip
      have pre118 : ∀ t_, Steps p.tables e below (s₁.setTop (mkF m 100 #[.val (.int p1), .val (.int p2), .val (.int p3), .val (.int p4), .val (.int p5), .val (.int l1), .val (.int l2), .val (.int l3), .val (.int l4), .val (.int s1), .unset, .unset, .unset, .unset, .unset, .unset, .unset, .unset, .unset, .unset, .unset, .unset, .unset, .unset, .unset, .unset, .unset, .unset, .unset, .unset] [(.int (1 : Int32))])) t_ → Steps p.tables e below (s₁.setTop (entryFrame m #[(.int p1), (.int p2), (.int p3), (.int p4), (.int p5)] maxLocals)) t_ := fun t_ k_ => pre115 _ (by
        show Steps p.tables e below (s₁.setTop (mkF m 92 #[.val (.int p1), .val (.int p2), .val (.int p3), .val (.int p4), .val (.int p5), .val (.int l1), .val (.int l2), .val (.int l3), .val (.int l4), .val (.int s1), .unset, .unset, .unset, .unset, .unset, .unset, .unset, .unset, .unset, .unset, .unset, .unset, .unset, .unset, .unset, .unset, .unset, .unset, .unset, .unset] [(.int (((p5.toUInt32 >>> ((11 : Int32) &&& 31).toUInt32).toInt32) &&& (1 : Int32)))])) _
        refine XS.ifNo X0.here hx rfl (hb hby at_92) rfl ((if0 _ _).trans (feq hf).1) ?_
        show Steps p.tables e below (s₁.setTop (mkF m 95 #[.val (.int p1), .val (.int p2), .val (.int p3), .val (.int p4), .val (.int p5), .val (.int l1), .val (.int l2), .val (.int l3), .val (.int l4), .val (.int s1), .unset, .unset, .unset, .unset, .unset, .unset, .unset, .unset, .unset, .unset, .unset, .unset, .unset, .unset, .unset, .unset, .unset, .unset, .unset, .unset] [])) _
        refine XS.iconst X0.here hx rfl (hb hby at_95) ?_
        show Steps p.tables e below (s₁.setTop (mkF m 96 #[.val (.int p1), .val (.int p2), .val (.int p3), .val (.int p4), .val (.int p5), .val (.int l1), .val (.int l2), .val (.int l3), .val (.int l4), .val (.int s1), .unset, .unset, .unset, .unset, .unset, .unset, .unset, .unset, .unset, .unset, .unset, .unset, .unset, .unset, .unset, .unset, .unset, .unset, .unset, .unset] [(.int (1 : Int32))])) _
        refine XS.goto X0.here hx rfl (pc0 := 96) (pc' := 100) rfl (hb hby at_96) (by decide) (by decide) ?_
        exact k_)
      exact ⟨(1 : Int32), trivial, pre118⟩
  obtain ⟨kd, hv_kd, pre119⟩ : ∃ z_ : Int32, z_ = (((p5.toUInt32 >>> ((12 : Int32) &&& 31).toUInt32).toInt32) &&& (3 : Int32)) ∧ ∀ t_, Steps p.tables e below (s₁.setTop (mkF m 111 #[.val (.int p1), .val (.int p2), .val (.int p3), .val (.int p4), .val (.int p5), .val (.int l1), .val (.int l2), .val (.int l3), .val (.int l4), .val (.int s1), .val (.int s2), .val (.int z_), .unset, .unset, .unset, .unset, .unset, .unset, .unset, .unset, .unset, .unset, .unset, .unset, .unset, .unset, .unset, .unset, .unset, .unset] [])) t_ → Steps p.tables e below (s₁.setTop (entryFrame m #[(.int p1), (.int p2), (.int p3), (.int p4), (.int p5)] maxLocals)) t_ := ⟨_, rfl, fun t_ k_ => pre116 _ (by
    show Steps p.tables e below (s₁.setTop (mkF m 100 #[.val (.int p1), .val (.int p2), .val (.int p3), .val (.int p4), .val (.int p5), .val (.int l1), .val (.int l2), .val (.int l3), .val (.int l4), .val (.int s1), .unset, .unset, .unset, .unset, .unset, .unset, .unset, .unset, .unset, .unset, .unset, .unset, .unset, .unset, .unset, .unset, .unset, .unset, .unset, .unset] [(.int s2)])) _
    refine XS.istore X0.here hx rfl (hb hby at_100) rfl (l' := #[.val (.int p1), .val (.int p2), .val (.int p3), .val (.int p4), .val (.int p5), .val (.int l1), .val (.int l2), .val (.int l3), .val (.int l4), .val (.int s1), .val (.int s2), .unset, .unset, .unset, .unset, .unset, .unset, .unset, .unset, .unset, .unset, .unset, .unset, .unset, .unset, .unset, .unset, .unset, .unset, .unset]) rfl ?_
    show Steps p.tables e below (s₁.setTop (mkF m 102 #[.val (.int p1), .val (.int p2), .val (.int p3), .val (.int p4), .val (.int p5), .val (.int l1), .val (.int l2), .val (.int l3), .val (.int l4), .val (.int s1), .val (.int s2), .unset, .unset, .unset, .unset, .unset, .unset, .unset, .unset, .unset, .unset, .unset, .unset, .unset, .unset, .unset, .unset, .unset, .unset, .unset] [])) _
    refine XS.iload X0.here hx rfl (hb hby at_102) rfl ?_
    show Steps p.tables e below (s₁.setTop (mkF m 104 #[.val (.int p1), .val (.int p2), .val (.int p3), .val (.int p4), .val (.int p5), .val (.int l1), .val (.int l2), .val (.int l3), .val (.int l4), .val (.int s1), .val (.int s2), .unset, .unset, .unset, .unset, .unset, .unset, .unset, .unset, .unset, .unset, .unset, .unset, .unset, .unset, .unset, .unset, .unset, .unset, .unset] [(.int p5)])) _
    refine XS.bipush X0.here hx rfl (hb hby at_104) ?_
    show Steps p.tables e below (s₁.setTop (mkF m 106 #[.val (.int p1), .val (.int p2), .val (.int p3), .val (.int p4), .val (.int p5), .val (.int l1), .val (.int l2), .val (.int l3), .val (.int l4), .val (.int s1), .val (.int s2), .unset, .unset, .unset, .unset, .unset, .unset, .unset, .unset, .unset, .unset, .unset, .unset, .unset, .unset, .unset, .unset, .unset, .unset, .unset] [(.int (12 : Int32)), (.int p5)])) _
    refine XS.iushr X0.here hx rfl (hb hby at_106) rfl ?_
    show Steps p.tables e below (s₁.setTop (mkF m 107 #[.val (.int p1), .val (.int p2), .val (.int p3), .val (.int p4), .val (.int p5), .val (.int l1), .val (.int l2), .val (.int l3), .val (.int l4), .val (.int s1), .val (.int s2), .unset, .unset, .unset, .unset, .unset, .unset, .unset, .unset, .unset, .unset, .unset, .unset, .unset, .unset, .unset, .unset, .unset, .unset, .unset] [(.int ((p5.toUInt32 >>> ((12 : Int32) &&& 31).toUInt32).toInt32))])) _
    refine XS.iconst X0.here hx rfl (hb hby at_107) ?_
    show Steps p.tables e below (s₁.setTop (mkF m 108 #[.val (.int p1), .val (.int p2), .val (.int p3), .val (.int p4), .val (.int p5), .val (.int l1), .val (.int l2), .val (.int l3), .val (.int l4), .val (.int s1), .val (.int s2), .unset, .unset, .unset, .unset, .unset, .unset, .unset, .unset, .unset, .unset, .unset, .unset, .unset, .unset, .unset, .unset, .unset, .unset, .unset] [(.int (3 : Int32)), (.int ((p5.toUInt32 >>> ((12 : Int32) &&& 31).toUInt32).toInt32))])) _
    refine XS.iand X0.here hx rfl (hb hby at_108) rfl ?_
    show Steps p.tables e below (s₁.setTop (mkF m 109 #[.val (.int p1), .val (.int p2), .val (.int p3), .val (.int p4), .val (.int p5), .val (.int l1), .val (.int l2), .val (.int l3), .val (.int l4), .val (.int s1), .val (.int s2), .unset, .unset, .unset, .unset, .unset, .unset, .unset, .unset, .unset, .unset, .unset, .unset, .unset, .unset, .unset, .unset, .unset, .unset, .unset] [(.int (((p5.toUInt32 >>> ((12 : Int32) &&& 31).toUInt32).toInt32) &&& (3 : Int32)))])) _
    refine XS.istore X0.here hx rfl (hb hby at_109) rfl (l' := #[.val (.int p1), .val (.int p2), .val (.int p3), .val (.int p4), .val (.int p5), .val (.int l1), .val (.int l2), .val (.int l3), .val (.int l4), .val (.int s1), .val (.int s2), .val (.int (((p5.toUInt32 >>> ((12 : Int32) &&& 31).toUInt32).toInt32) &&& (3 : Int32))), .unset, .unset, .unset, .unset, .unset, .unset, .unset, .unset, .unset, .unset, .unset, .unset, .unset, .unset, .unset, .unset, .unset, .unset]) rfl ?_
    exact k_)⟩
  have hkd : kd = 0 ∨ kd = 1 ∨ kd = 2 ∨ kd = 3 := by rw [hv_kd]; exact own_4 _
  obtain ⟨n0_, hv_n0_, pre120⟩ : ∃ z_ : Int32, z_ = ((p1 &&& (255 : Int32)).toUInt32.toUInt16.toUInt32.toInt32) ∧ ∀ t_, Steps p.tables e below (s₁.setTop (mkF m 130 #[.val (.int p1), .val (.int p2), .val (.int p3), .val (.int p4), .val (.int p5), .val (.int l1), .val (.int l2), .val (.int l3), .val (.int l4), .val (.int s1), .val (.int s2), .val (.int kd), .val (.int z_), .val (.int ((((p1.toUInt32 >>> ((8 : Int32) &&& 31).toUInt32).toInt32) &&& (255 : Int32)).toUInt32.toUInt16.toUInt32.toInt32)), .unset, .unset, .unset, .unset, .unset, .unset, .unset, .unset, .unset, .unset, .unset, .unset, .unset, .unset, .unset, .unset] [])) t_ → Steps p.tables e below (s₁.setTop (entryFrame m #[(.int p1), (.int p2), (.int p3), (.int p4), (.int p5)] maxLocals)) t_ := ⟨_, rfl, fun t_ k_ => pre119 _ (by
    show Steps p.tables e below (s₁.setTop (mkF m 111 #[.val (.int p1), .val (.int p2), .val (.int p3), .val (.int p4), .val (.int p5), .val (.int l1), .val (.int l2), .val (.int l3), .val (.int l4), .val (.int s1), .val (.int s2), .val (.int kd), .unset, .unset, .unset, .unset, .unset, .unset, .unset, .unset, .unset, .unset, .unset, .unset, .unset, .unset, .unset, .unset, .unset, .unset] [])) _
    refine XS.iloadN X0.here hx rfl (hb hby at_111) rfl ?_
    show Steps p.tables e below (s₁.setTop (mkF m 112 #[.val (.int p1), .val (.int p2), .val (.int p3), .val (.int p4), .val (.int p5), .val (.int l1), .val (.int l2), .val (.int l3), .val (.int l4), .val (.int s1), .val (.int s2), .val (.int kd), .unset, .unset, .unset, .unset, .unset, .unset, .unset, .unset, .unset, .unset, .unset, .unset, .unset, .unset, .unset, .unset, .unset, .unset] [(.int p1)])) _
    refine XS.sipush X0.here hx rfl (hb hby at_112) ?_
    show Steps p.tables e below (s₁.setTop (mkF m 115 #[.val (.int p1), .val (.int p2), .val (.int p3), .val (.int p4), .val (.int p5), .val (.int l1), .val (.int l2), .val (.int l3), .val (.int l4), .val (.int s1), .val (.int s2), .val (.int kd), .unset, .unset, .unset, .unset, .unset, .unset, .unset, .unset, .unset, .unset, .unset, .unset, .unset, .unset, .unset, .unset, .unset, .unset] [(.int (255 : Int32)), (.int p1)])) _
    refine XS.iand X0.here hx rfl (hb hby at_115) rfl ?_
    show Steps p.tables e below (s₁.setTop (mkF m 116 #[.val (.int p1), .val (.int p2), .val (.int p3), .val (.int p4), .val (.int p5), .val (.int l1), .val (.int l2), .val (.int l3), .val (.int l4), .val (.int s1), .val (.int s2), .val (.int kd), .unset, .unset, .unset, .unset, .unset, .unset, .unset, .unset, .unset, .unset, .unset, .unset, .unset, .unset, .unset, .unset, .unset, .unset] [(.int (p1 &&& (255 : Int32)))])) _
    refine XS.i2c X0.here hx rfl (hb hby at_116) rfl ?_
    show Steps p.tables e below (s₁.setTop (mkF m 117 #[.val (.int p1), .val (.int p2), .val (.int p3), .val (.int p4), .val (.int p5), .val (.int l1), .val (.int l2), .val (.int l3), .val (.int l4), .val (.int s1), .val (.int s2), .val (.int kd), .unset, .unset, .unset, .unset, .unset, .unset, .unset, .unset, .unset, .unset, .unset, .unset, .unset, .unset, .unset, .unset, .unset, .unset] [(.int ((p1 &&& (255 : Int32)).toUInt32.toUInt16.toUInt32.toInt32))])) _
    refine XS.istore X0.here hx rfl (hb hby at_117) rfl (l' := #[.val (.int p1), .val (.int p2), .val (.int p3), .val (.int p4), .val (.int p5), .val (.int l1), .val (.int l2), .val (.int l3), .val (.int l4), .val (.int s1), .val (.int s2), .val (.int kd), .val (.int ((p1 &&& (255 : Int32)).toUInt32.toUInt16.toUInt32.toInt32)), .unset, .unset, .unset, .unset, .unset, .unset, .unset, .unset, .unset, .unset, .unset, .unset, .unset, .unset, .unset, .unset, .unset]) rfl ?_
    show Steps p.tables e below (s₁.setTop (mkF m 119 #[.val (.int p1), .val (.int p2), .val (.int p3), .val (.int p4), .val (.int p5), .val (.int l1), .val (.int l2), .val (.int l3), .val (.int l4), .val (.int s1), .val (.int s2), .val (.int kd), .val (.int ((p1 &&& (255 : Int32)).toUInt32.toUInt16.toUInt32.toInt32)), .unset, .unset, .unset, .unset, .unset, .unset, .unset, .unset, .unset, .unset, .unset, .unset, .unset, .unset, .unset, .unset, .unset] [])) _
    refine XS.iloadN X0.here hx rfl (hb hby at_119) rfl ?_
    show Steps p.tables e below (s₁.setTop (mkF m 120 #[.val (.int p1), .val (.int p2), .val (.int p3), .val (.int p4), .val (.int p5), .val (.int l1), .val (.int l2), .val (.int l3), .val (.int l4), .val (.int s1), .val (.int s2), .val (.int kd), .val (.int ((p1 &&& (255 : Int32)).toUInt32.toUInt16.toUInt32.toInt32)), .unset, .unset, .unset, .unset, .unset, .unset, .unset, .unset, .unset, .unset, .unset, .unset, .unset, .unset, .unset, .unset, .unset] [(.int p1)])) _
    refine XS.bipush X0.here hx rfl (hb hby at_120) ?_
    show Steps p.tables e below (s₁.setTop (mkF m 122 #[.val (.int p1), .val (.int p2), .val (.int p3), .val (.int p4), .val (.int p5), .val (.int l1), .val (.int l2), .val (.int l3), .val (.int l4), .val (.int s1), .val (.int s2), .val (.int kd), .val (.int ((p1 &&& (255 : Int32)).toUInt32.toUInt16.toUInt32.toInt32)), .unset, .unset, .unset, .unset, .unset, .unset, .unset, .unset, .unset, .unset, .unset, .unset, .unset, .unset, .unset, .unset, .unset] [(.int (8 : Int32)), (.int p1)])) _
    refine XS.iushr X0.here hx rfl (hb hby at_122) rfl ?_
    show Steps p.tables e below (s₁.setTop (mkF m 123 #[.val (.int p1), .val (.int p2), .val (.int p3), .val (.int p4), .val (.int p5), .val (.int l1), .val (.int l2), .val (.int l3), .val (.int l4), .val (.int s1), .val (.int s2), .val (.int kd), .val (.int ((p1 &&& (255 : Int32)).toUInt32.toUInt16.toUInt32.toInt32)), .unset, .unset, .unset, .unset, .unset, .unset, .unset, .unset, .unset, .unset, .unset, .unset, .unset, .unset, .unset, .unset, .unset] [(.int ((p1.toUInt32 >>> ((8 : Int32) &&& 31).toUInt32).toInt32))])) _
    refine XS.sipush X0.here hx rfl (hb hby at_123) ?_
    show Steps p.tables e below (s₁.setTop (mkF m 126 #[.val (.int p1), .val (.int p2), .val (.int p3), .val (.int p4), .val (.int p5), .val (.int l1), .val (.int l2), .val (.int l3), .val (.int l4), .val (.int s1), .val (.int s2), .val (.int kd), .val (.int ((p1 &&& (255 : Int32)).toUInt32.toUInt16.toUInt32.toInt32)), .unset, .unset, .unset, .unset, .unset, .unset, .unset, .unset, .unset, .unset, .unset, .unset, .unset, .unset, .unset, .unset, .unset] [(.int (255 : Int32)), (.int ((p1.toUInt32 >>> ((8 : Int32) &&& 31).toUInt32).toInt32))])) _
    refine XS.iand X0.here hx rfl (hb hby at_126) rfl ?_
    show Steps p.tables e below (s₁.setTop (mkF m 127 #[.val (.int p1), .val (.int p2), .val (.int p3), .val (.int p4), .val (.int p5), .val (.int l1), .val (.int l2), .val (.int l3), .val (.int l4), .val (.int s1), .val (.int s2), .val (.int kd), .val (.int ((p1 &&& (255 : Int32)).toUInt32.toUInt16.toUInt32.toInt32)), .unset, .unset, .unset, .unset, .unset, .unset, .unset, .unset, .unset, .unset, .unset, .unset, .unset, .unset, .unset, .unset, .unset] [(.int (((p1.toUInt32 >>> ((8 : Int32) &&& 31).toUInt32).toInt32) &&& (255 : Int32)))])) _
    refine XS.i2c X0.here hx rfl (hb hby at_127) rfl ?_
    show Steps p.tables e below (s₁.setTop (mkF m 128 #[.val (.int p1), .val (.int p2), .val (.int p3), .val (.int p4), .val (.int p5), .val (.int l1), .val (.int l2), .val (.int l3), .val (.int l4), .val (.int s1), .val (.int s2), .val (.int kd), .val (.int ((p1 &&& (255 : Int32)).toUInt32.toUInt16.toUInt32.toInt32)), .unset, .unset, .unset, .unset, .unset, .unset, .unset, .unset, .unset, .unset, .unset, .unset, .unset, .unset, .unset, .unset, .unset] [(.int ((((p1.toUInt32 >>> ((8 : Int32) &&& 31).toUInt32).toInt32) &&& (255 : Int32)).toUInt32.toUInt16.toUInt32.toInt32))])) _
    refine XS.istore X0.here hx rfl (hb hby at_128) rfl (l' := #[.val (.int p1), .val (.int p2), .val (.int p3), .val (.int p4), .val (.int p5), .val (.int l1), .val (.int l2), .val (.int l3), .val (.int l4), .val (.int s1), .val (.int s2), .val (.int kd), .val (.int ((p1 &&& (255 : Int32)).toUInt32.toUInt16.toUInt32.toInt32)), .val (.int ((((p1.toUInt32 >>> ((8 : Int32) &&& 31).toUInt32).toInt32) &&& (255 : Int32)).toUInt32.toUInt16.toUInt32.toInt32)), .unset, .unset, .unset, .unset, .unset, .unset, .unset, .unset, .unset, .unset, .unset, .unset, .unset, .unset, .unset, .unset]) rfl ?_
    exact k_)⟩
  have b_n0_ : own_b8 n0_ := by rw [hv_n0_]; exact own_c8 (own_and8 _)
  obtain ⟨n1_, hv_n1_, pre121⟩ : ∃ z_ : Int32, z_ = ((((p1.toUInt32 >>> ((8 : Int32) &&& 31).toUInt32).toInt32) &&& (255 : Int32)).toUInt32.toUInt16.toUInt32.toInt32) ∧ ∀ t_, Steps p.tables e below (s₁.setTop (mkF m 130 #[.val (.int p1), .val (.int p2), .val (.int p3), .val (.int p4), .val (.int p5), .val (.int l1), .val (.int l2), .val (.int l3), .val (.int l4), .val (.int s1), .val (.int s2), .val (.int kd), .val (.int n0_), .val (.int z_), .unset, .unset, .unset, .unset, .unset, .unset, .unset, .unset, .unset, .unset, .unset, .unset, .unset, .unset, .unset, .unset] [])) t_ → Steps p.tables e below (s₁.setTop (entryFrame m #[(.int p1), (.int p2), (.int p3), (.int p4), (.int p5)] maxLocals)) t_ := ⟨_, rfl, fun t_ k_ => pre120 _ (by
    exact k_)⟩
  have b_n1_ : own_b8 n1_ := by rw [hv_n1_]; exact own_c8 (own_and8 _)
  have pre122 : ∀ t_, Steps p.tables e below (s₁.setTop (mkF m 134 #[.val (.int p1), .val (.int p2), .val (.int p3), .val (.int p4), .val (.int p5), .val (.int l1), .val (.int l2), .val (.int l3), .val (.int l4), .val (.int s1), .val (.int s2), .val (.int kd), .val (.int n0_), .val (.int n1_), .unset, .unset, .unset, .unset, .unset, .unset, .unset, .unset, .unset, .unset, .unset, .unset, .unset, .unset, .unset, .unset] [(.int s1), (.int n0_)])) t_ → Steps p.tables e below (s₁.setTop (entryFrame m #[(.int p1), (.int p2), (.int p3), (.int p4), (.int p5)] maxLocals)) t_ := fun t_ k_ => pre121 _ (by
    show Steps p.tables e below (s₁.setTop (mkF m 130 #[.val (.int p1), .val (.int p2), .val (.int p3), .val (.int p4), .val (.int p5), .val (.int l1), .val (.int l2), .val (.int l3), .val (.int l4), .val (.int s1), .val (.int s2), .val (.int kd), .val (.int n0_), .val (.int n1_), .unset, .unset, .unset, .unset, .unset, .unset, .unset, .unset, .unset, .unset, .unset, .unset, .unset, .unset, .unset, .unset] [])) _
    refine XS.iload X0.here hx rfl (hb hby at_130) rfl ?_
    show Steps p.tables e below (s₁.setTop (mkF m 132 #[.val (.int p1), .val (.int p2), .val (.int p3), .val (.int p4), .val (.int p5), .val (.int l1), .val (.int l2), .val (.int l3), .val (.int l4), .val (.int s1), .val (.int s2), .val (.int kd), .val (.int n0_), .val (.int n1_), .unset, .unset, .unset, .unset, .unset, .unset, .unset, .unset, .unset, .unset, .unset, .unset, .unset, .unset, .unset, .unset] [(.int n0_)])) _
    refine XS.iload X0.here hx rfl (hb hby at_132) rfl ?_
    exact k_)
  obtain ⟨vm0_, hj_vm0_, pre123⟩ : ∃ vm0_ : Int32, (own_b8 vm0_) ∧ ∀ t_, Steps p.tables e below (s₁.setTop (mkF m 146 #[.val (.int p1), .val (.int p2), .val (.int p3), .val (.int p4), .val (.int p5), .val (.int l1), .val (.int l2), .val (.int l3), .val (.int l4), .val (.int s1), .val (.int s2), .val (.int kd), .val (.int n0_), .val (.int n1_), .unset, .unset, .unset, .unset, .unset, .unset, .unset, .unset, .unset, .unset, .unset, .unset, .unset, .unset, .unset, .unset] [(.int vm0_), (.int n0_)])) t_ → Steps p.tables e below (s₁.setTop (entryFrame m #[(.int p1), (.int p2), (.int p3), (.int p4), (.int p5)] maxLocals)) t_ := by
    by_cases hf : s1 = (0 : Int32)
    · skip
      have pre124 : ∀ t_, Steps p.tables e below (s₁.setTop (mkF m 146 #[.val (.int p1), .val (.int p2), .val (.int p3), .val (.int p4), .val (.int p5), .val (.int l1), .val (.int l2), .val (.int l3), .val (.int l4), .val (.int s1), .val (.int s2), .val (.int kd), .val (.int n0_), .val (.int n1_), .unset, .unset, .unset, .unset, .unset, .unset, .unset, .unset, .unset, .unset, .unset, .unset, .unset, .unset, .unset, .unset] [(.int (p2 &&& (255 : Int32))), (.int n0_)])) t_ → Steps p.tables e below (s₁.setTop (entryFrame m #[(.int p1), (.int p2), (.int p3), (.int p4), (.int p5)] maxLocals)) t_ := fun t_ k_ => pre122 _ (by
        show Steps p.tables e below (s₁.setTop (mkF m 134 #[.val (.int p1), .val (.int p2), .val (.int p3), .val (.int p4), .val (.int p5), .val (.int l1), .val (.int l2), .val (.int l3), .val (.int l4), .val (.int s1), .val (.int s2), .val (.int kd), .val (.int n0_), .val (.int n1_), .unset, .unset, .unset, .unset, .unset, .unset, .unset, .unset, .unset, .unset, .unset, .unset, .unset, .unset, .unset, .unset] [(.int s1), (.int n0_)])) _
        refine XS.ifYes X0.here hx rfl (pc0 := 134) (pc' := 141) rfl (hb hby at_134) rfl ((if0 _ _).trans (teq hf).1) (by decide) (by decide) ?_
        show Steps p.tables e below (s₁.setTop (mkF m 141 #[.val (.int p1), .val (.int p2), .val (.int p3), .val (.int p4), .val (.int p5), .val (.int l1), .val (.int l2), .val (.int l3), .val (.int l4), .val (.int s1), .val (.int s2), .val (.int kd), .val (.int n0_), .val (.int n1_), .unset, .unset, .unset, .unset, .unset, .unset, .unset, .unset, .unset, .unset, .unset, .unset, .unset, .unset, .unset, .unset] [(.int n0_)])) _
        refine XS.iloadN X0.here hx rfl (hb hby at_141) rfl ?_
        show Steps p.tables e below (s₁.setTop (mkF m 142 #[.val (.int p1), .val (.int p2), .val (.int p3), .val (.int p4), .val (.int p5), .val (.int l1), .val (.int l2), .val (.int l3), .val (.int l4), .val (.int s1), .val (.int s2), .val (.int kd), .val (.int n0_), .val (.int n1_), .unset, .unset, .unset, .unset, .unset, .unset, .unset, .unset, .unset, .unset, .unset, .unset, .unset, .unset, .unset, .unset] [(.int p2), (.int n0_)])) _
        refine XS.sipush X0.here hx rfl (hb hby at_142) ?_
        show Steps p.tables e below (s₁.setTop (mkF m 145 #[.val (.int p1), .val (.int p2), .val (.int p3), .val (.int p4), .val (.int p5), .val (.int l1), .val (.int l2), .val (.int l3), .val (.int l4), .val (.int s1), .val (.int s2), .val (.int kd), .val (.int n0_), .val (.int n1_), .unset, .unset, .unset, .unset, .unset, .unset, .unset, .unset, .unset, .unset, .unset, .unset, .unset, .unset, .unset, .unset] [(.int (255 : Int32)), (.int p2), (.int n0_)])) _
        refine XS.iand X0.here hx rfl (hb hby at_145) rfl ?_
        exact k_)
      exact ⟨(p2 &&& (255 : Int32)), own_and8 _, pre124⟩
    · skip
      have pre125 : ∀ t_, Steps p.tables e below (s₁.setTop (mkF m 146 #[.val (.int p1), .val (.int p2), .val (.int p3), .val (.int p4), .val (.int p5), .val (.int l1), .val (.int l2), .val (.int l3), .val (.int l4), .val (.int s1), .val (.int s2), .val (.int kd), .val (.int n0_), .val (.int n1_), .unset, .unset, .unset, .unset, .unset, .unset, .unset, .unset, .unset, .unset, .unset, .unset, .unset, .unset, .unset, .unset] [(.int (0 : Int32)), (.int n0_)])) t_ → Steps p.tables e below (s₁.setTop (entryFrame m #[(.int p1), (.int p2), (.int p3), (.int p4), (.int p5)] maxLocals)) t_ := fun t_ k_ => pre122 _ (by
        show Steps p.tables e below (s₁.setTop (mkF m 134 #[.val (.int p1), .val (.int p2), .val (.int p3), .val (.int p4), .val (.int p5), .val (.int l1), .val (.int l2), .val (.int l3), .val (.int l4), .val (.int s1), .val (.int s2), .val (.int kd), .val (.int n0_), .val (.int n1_), .unset, .unset, .unset, .unset, .unset, .unset, .unset, .unset, .unset, .unset, .unset, .unset, .unset, .unset, .unset, .unset] [(.int s1), (.int n0_)])) _
        refine XS.ifNo X0.here hx rfl (hb hby at_134) rfl ((if0 _ _).trans (feq hf).1) ?_
        show Steps p.tables e below (s₁.setTop (mkF m 137 #[.val (.int p1), .val (.int p2), .val (.int p3), .val (.int p4), .val (.int p5), .val (.int l1), .val (.int l2), .val (.int l3), .val (.int l4), .val (.int s1), .val (.int s2), .val (.int kd), .val (.int n0_), .val (.int n1_), .unset, .unset, .unset, .unset, .unset, .unset, .unset, .unset, .unset, .unset, .unset, .unset, .unset, .unset, .unset, .unset] [(.int n0_)])) _
        refine XS.iconst X0.here hx rfl (hb hby at_137) ?_
        show Steps p.tables e below (s₁.setTop (mkF m 138 #[.val (.int p1), .val (.int p2), .val (.int p3), .val (.int p4), .val (.int p5), .val (.int l1), .val (.int l2), .val (.int l3), .val (.int l4), .val (.int s1), .val (.int s2), .val (.int kd), .val (.int n0_), .val (.int n1_), .unset, .unset, .unset, .unset, .unset, .unset, .unset, .unset, .unset, .unset, .unset, .unset, .unset, .unset, .unset, .unset] [(.int (0 : Int32)), (.int n0_)])) _
        refine XS.goto X0.here hx rfl (pc0 := 138) (pc' := 146) rfl (hb hby at_138) (by decide) (by decide) ?_
        exact k_)
      exact ⟨(0 : Int32), own_zero8, pre125⟩
  obtain ⟨m0_, hv_m0_, pre126⟩ : ∃ z_ : Int32, z_ = ((n0_ ^^^ vm0_).toUInt32.toUInt16.toUInt32.toInt32) ∧ ∀ t_, Steps p.tables e below (s₁.setTop (mkF m 150 #[.val (.int p1), .val (.int p2), .val (.int p3), .val (.int p4), .val (.int p5), .val (.int l1), .val (.int l2), .val (.int l3), .val (.int l4), .val (.int s1), .val (.int s2), .val (.int kd), .val (.int n0_), .val (.int n1_), .val (.int z_), .unset, .unset, .unset, .unset, .unset, .unset, .unset, .unset, .unset, .unset, .unset, .unset, .unset, .unset, .unset] [])) t_ → Steps p.tables e below (s₁.setTop (entryFrame m #[(.int p1), (.int p2), (.int p3), (.int p4), (.int p5)] maxLocals)) t_ := ⟨_, rfl, fun t_ k_ => pre123 _ (by
    show Steps p.tables e below (s₁.setTop (mkF m 146 #[.val (.int p1), .val (.int p2), .val (.int p3), .val (.int p4), .val (.int p5), .val (.int l1), .val (.int l2), .val (.int l3), .val (.int l4), .val (.int s1), .val (.int s2), .val (.int kd), .val (.int n0_), .val (.int n1_), .unset, .unset, .unset, .unset, .unset, .unset, .unset, .unset, .unset, .unset, .unset, .unset, .unset, .unset, .unset, .unset] [(.int vm0_), (.int n0_)])) _
    refine XS.ixor X0.here hx rfl (hb hby at_146) rfl ?_
    show Steps p.tables e below (s₁.setTop (mkF m 147 #[.val (.int p1), .val (.int p2), .val (.int p3), .val (.int p4), .val (.int p5), .val (.int l1), .val (.int l2), .val (.int l3), .val (.int l4), .val (.int s1), .val (.int s2), .val (.int kd), .val (.int n0_), .val (.int n1_), .unset, .unset, .unset, .unset, .unset, .unset, .unset, .unset, .unset, .unset, .unset, .unset, .unset, .unset, .unset, .unset] [(.int (n0_ ^^^ vm0_))])) _
    refine XS.i2c X0.here hx rfl (hb hby at_147) rfl ?_
    show Steps p.tables e below (s₁.setTop (mkF m 148 #[.val (.int p1), .val (.int p2), .val (.int p3), .val (.int p4), .val (.int p5), .val (.int l1), .val (.int l2), .val (.int l3), .val (.int l4), .val (.int s1), .val (.int s2), .val (.int kd), .val (.int n0_), .val (.int n1_), .unset, .unset, .unset, .unset, .unset, .unset, .unset, .unset, .unset, .unset, .unset, .unset, .unset, .unset, .unset, .unset] [(.int ((n0_ ^^^ vm0_).toUInt32.toUInt16.toUInt32.toInt32))])) _
    refine XS.istore X0.here hx rfl (hb hby at_148) rfl (l' := #[.val (.int p1), .val (.int p2), .val (.int p3), .val (.int p4), .val (.int p5), .val (.int l1), .val (.int l2), .val (.int l3), .val (.int l4), .val (.int s1), .val (.int s2), .val (.int kd), .val (.int n0_), .val (.int n1_), .val (.int ((n0_ ^^^ vm0_).toUInt32.toUInt16.toUInt32.toInt32)), .unset, .unset, .unset, .unset, .unset, .unset, .unset, .unset, .unset, .unset, .unset, .unset, .unset, .unset, .unset]) rfl ?_
    exact k_)⟩
  have b_m0_ : own_b8 m0_ := by rw [hv_m0_]; exact own_c8 (own_xor8 b_n0_ hj_vm0_)
  have pre127 : ∀ t_, Steps p.tables e below (s₁.setTop (mkF m 154 #[.val (.int p1), .val (.int p2), .val (.int p3), .val (.int p4), .val (.int p5), .val (.int l1), .val (.int l2), .val (.int l3), .val (.int l4), .val (.int s1), .val (.int s2), .val (.int kd), .val (.int n0_), .val (.int n1_), .val (.int m0_), .unset, .unset, .unset, .unset, .unset, .unset, .unset, .unset, .unset, .unset, .unset, .unset, .unset, .unset, .unset] [(.int s1), (.int n1_)])) t_ → Steps p.tables e below (s₁.setTop (entryFrame m #[(.int p1), (.int p2), (.int p3), (.int p4), (.int p5)] maxLocals)) t_ := fun t_ k_ => pre126 _ (by
    show Steps p.tables e below (s₁.setTop (mkF m 150 #[.val (.int p1), .val (.int p2), .val (.int p3), .val (.int p4), .val (.int p5), .val (.int l1), .val (.int l2), .val (.int l3), .val (.int l4), .val (.int s1), .val (.int s2), .val (.int kd), .val (.int n0_), .val (.int n1_), .val (.int m0_), .unset, .unset, .unset, .unset, .unset, .unset, .unset, .unset, .unset, .unset, .unset, .unset, .unset, .unset, .unset] [])) _
    refine XS.iload X0.here hx rfl (hb hby at_150) rfl ?_
    show Steps p.tables e below (s₁.setTop (mkF m 152 #[.val (.int p1), .val (.int p2), .val (.int p3), .val (.int p4), .val (.int p5), .val (.int l1), .val (.int l2), .val (.int l3), .val (.int l4), .val (.int s1), .val (.int s2), .val (.int kd), .val (.int n0_), .val (.int n1_), .val (.int m0_), .unset, .unset, .unset, .unset, .unset, .unset, .unset, .unset, .unset, .unset, .unset, .unset, .unset, .unset, .unset] [(.int n1_)])) _
    refine XS.iload X0.here hx rfl (hb hby at_152) rfl ?_
    exact k_)
  obtain ⟨vm1_, hj_vm1_, pre128⟩ : ∃ vm1_ : Int32, (own_b8 vm1_) ∧ ∀ t_, Steps p.tables e below (s₁.setTop (mkF m 169 #[.val (.int p1), .val (.int p2), .val (.int p3), .val (.int p4), .val (.int p5), .val (.int l1), .val (.int l2), .val (.int l3), .val (.int l4), .val (.int s1), .val (.int s2), .val (.int kd), .val (.int n0_), .val (.int n1_), .val (.int m0_), .unset, .unset, .unset, .unset, .unset, .unset, .unset, .unset, .unset, .unset, .unset, .unset, .unset, .unset, .unset] [(.int vm1_), (.int n1_)])) t_ → Steps p.tables e below (s₁.setTop (entryFrame m #[(.int p1), (.int p2), (.int p3), (.int p4), (.int p5)] maxLocals)) t_ := by
    by_cases hf : s1 = (0 : Int32)
    · skip
      have pre129 : ∀ t_, Steps p.tables e below (s₁.setTop (mkF m 169 #[.val (.int p1), .val (.int p2), .val (.int p3), .val (.int p4), .val (.int p5), .val (.int l1), .val (.int l2), .val (.int l3), .val (.int l4), .val (.int s1), .val (.int s2), .val (.int kd), .val (.int n0_), .val (.int n1_), .val (.int m0_), .unset, .unset, .unset, .unset, .unset, .unset, .unset, .unset, .unset, .unset, .unset, .unset, .unset, .unset, .unset] [(.int (((p2.toUInt32 >>> ((8 : Int32) &&& 31).toUInt32).toInt32) &&& (255 : Int32))), (.int n1_)])) t_ → Steps p.tables e below (s₁.setTop (entryFrame m #[(.int p1), (.int p2), (.int p3), (.int p4), (.int p5)] maxLocals)) t_ := fun t_ k_ => pre127 _ (by
        show Steps p.tables e below (s₁.setTop (mkF m 154 #[.val (.int p1), .val (.int p2), .val (.int p3), .val (.int p4), .val (.int p5), .val (.int l1), .val (.int l2), .val (.int l3), .val (.int l4), .val (.int s1), .val (.int s2), .val (.int kd), .val (.int n0_), .val (.int n1_), .val (.int m0_), .unset, .unset, .unset, .unset, .unset, .unset, .unset, .unset, .unset, .unset, .unset, .unset, .unset, .unset, .unset] [(.int s1), (.int n1_)])) _
        refine XS.ifYes X0.here hx rfl (pc0 := 154) (pc' := 161) rfl (hb hby at_154) rfl ((if0 _ _).trans (teq hf).1) (by decide) (by decide) ?_
        show Steps p.tables e below (s₁.setTop (mkF m 161 #[.val (.int p1), .val (.int p2), .val (.int p3), .val (.int p4), .val (.int p5), .val (.int l1), .val (.int l2), .val (.int l3), .val (.int l4), .val (.int s1), .val (.int s2), .val (.int kd), .val (.int n0_), .val (.int n1_), .val (.int m0_), .unset, .unset, .unset, .unset, .unset, .unset, .unset, .unset, .unset, .unset, .unset, .unset, .unset, .unset, .unset] [(.int n1_)])) _
        refine XS.iloadN X0.here hx rfl (hb hby at_161) rfl ?_
        show Steps p.tables e below (s₁.setTop (mkF m 162 #[.val (.int p1), .val (.int p2), .val (.int p3), .val (.int p4), .val (.int p5), .val (.int l1), .val (.int l2), .val (.int l3), .val (.int l4), .val (.int s1), .val (.int s2), .val (.int kd), .val (.int n0_), .val (.int n1_), .val (.int m0_), .unset, .unset, .unset, .unset, .unset, .unset, .unset, .unset, .unset, .unset, .unset, .unset, .unset, .unset, .unset] [(.int p2), (.int n1_)])) _
        refine XS.bipush X0.here hx rfl (hb hby at_162) ?_
        show Steps p.tables e below (s₁.setTop (mkF m 164 #[.val (.int p1), .val (.int p2), .val (.int p3), .val (.int p4), .val (.int p5), .val (.int l1), .val (.int l2), .val (.int l3), .val (.int l4), .val (.int s1), .val (.int s2), .val (.int kd), .val (.int n0_), .val (.int n1_), .val (.int m0_), .unset, .unset, .unset, .unset, .unset, .unset, .unset, .unset, .unset, .unset, .unset, .unset, .unset, .unset, .unset] [(.int (8 : Int32)), (.int p2), (.int n1_)])) _
        refine XS.iushr X0.here hx rfl (hb hby at_164) rfl ?_
        show Steps p.tables e below (s₁.setTop (mkF m 165 #[.val (.int p1), .val (.int p2), .val (.int p3), .val (.int p4), .val (.int p5), .val (.int l1), .val (.int l2), .val (.int l3), .val (.int l4), .val (.int s1), .val (.int s2), .val (.int kd), .val (.int n0_), .val (.int n1_), .val (.int m0_), .unset, .unset, .unset, .unset, .unset, .unset, .unset, .unset, .unset, .unset, .unset, .unset, .unset, .unset, .unset] [(.int ((p2.toUInt32 >>> ((8 : Int32) &&& 31).toUInt32).toInt32)), (.int n1_)])) _
        refine XS.sipush X0.here hx rfl (hb hby at_165) ?_
        show Steps p.tables e below (s₁.setTop (mkF m 168 #[.val (.int p1), .val (.int p2), .val (.int p3), .val (.int p4), .val (.int p5), .val (.int l1), .val (.int l2), .val (.int l3), .val (.int l4), .val (.int s1), .val (.int s2), .val (.int kd), .val (.int n0_), .val (.int n1_), .val (.int m0_), .unset, .unset, .unset, .unset, .unset, .unset, .unset, .unset, .unset, .unset, .unset, .unset, .unset, .unset, .unset] [(.int (255 : Int32)), (.int ((p2.toUInt32 >>> ((8 : Int32) &&& 31).toUInt32).toInt32)), (.int n1_)])) _
        refine XS.iand X0.here hx rfl (hb hby at_168) rfl ?_
        exact k_)
      exact ⟨(((p2.toUInt32 >>> ((8 : Int32) &&& 31).toUInt32).toInt32) &&& (255 : Int32)), own_and8 _, pre129⟩
    · skip
      have pre130 : ∀ t_, Steps p.tables e below (s₁.setTop (mkF m 169 #[.val (.int p1), .val (.int p2), .val (.int p3), .val (.int p4), .val (.int p5), .val (.int l1), .val (.int l2), .val (.int l3), .val (.int l4), .val (.int s1), .val (.int s2), .val (.int kd), .val (.int n0_), .val (.int n1_), .val (.int m0_), .unset, .unset, .unset, .unset, .unset, .unset, .unset, .unset, .unset, .unset, .unset, .unset, .unset, .unset, .unset] [(.int (0 : Int32)), (.int n1_)])) t_ → Steps p.tables e below (s₁.setTop (entryFrame m #[(.int p1), (.int p2), (.int p3), (.int p4), (.int p5)] maxLocals)) t_ := fun t_ k_ => pre127 _ (by
        show Steps p.tables e below (s₁.setTop (mkF m 154 #[.val (.int p1), .val (.int p2), .val (.int p3), .val (.int p4), .val (.int p5), .val (.int l1), .val (.int l2), .val (.int l3), .val (.int l4), .val (.int s1), .val (.int s2), .val (.int kd), .val (.int n0_), .val (.int n1_), .val (.int m0_), .unset, .unset, .unset, .unset, .unset, .unset, .unset, .unset, .unset, .unset, .unset, .unset, .unset, .unset, .unset] [(.int s1), (.int n1_)])) _
        refine XS.ifNo X0.here hx rfl (hb hby at_154) rfl ((if0 _ _).trans (feq hf).1) ?_
        show Steps p.tables e below (s₁.setTop (mkF m 157 #[.val (.int p1), .val (.int p2), .val (.int p3), .val (.int p4), .val (.int p5), .val (.int l1), .val (.int l2), .val (.int l3), .val (.int l4), .val (.int s1), .val (.int s2), .val (.int kd), .val (.int n0_), .val (.int n1_), .val (.int m0_), .unset, .unset, .unset, .unset, .unset, .unset, .unset, .unset, .unset, .unset, .unset, .unset, .unset, .unset, .unset] [(.int n1_)])) _
        refine XS.iconst X0.here hx rfl (hb hby at_157) ?_
        show Steps p.tables e below (s₁.setTop (mkF m 158 #[.val (.int p1), .val (.int p2), .val (.int p3), .val (.int p4), .val (.int p5), .val (.int l1), .val (.int l2), .val (.int l3), .val (.int l4), .val (.int s1), .val (.int s2), .val (.int kd), .val (.int n0_), .val (.int n1_), .val (.int m0_), .unset, .unset, .unset, .unset, .unset, .unset, .unset, .unset, .unset, .unset, .unset, .unset, .unset, .unset, .unset] [(.int (0 : Int32)), (.int n1_)])) _
        refine XS.goto X0.here hx rfl (pc0 := 158) (pc' := 169) rfl (hb hby at_158) (by decide) (by decide) ?_
        exact k_)
      exact ⟨(0 : Int32), own_zero8, pre130⟩
  obtain ⟨m1_, hv_m1_, pre131⟩ : ∃ z_ : Int32, z_ = ((n1_ ^^^ vm1_).toUInt32.toUInt16.toUInt32.toInt32) ∧ ∀ t_, Steps p.tables e below (s₁.setTop (mkF m 173 #[.val (.int p1), .val (.int p2), .val (.int p3), .val (.int p4), .val (.int p5), .val (.int l1), .val (.int l2), .val (.int l3), .val (.int l4), .val (.int s1), .val (.int s2), .val (.int kd), .val (.int n0_), .val (.int n1_), .val (.int m0_), .val (.int z_), .unset, .unset, .unset, .unset, .unset, .unset, .unset, .unset, .unset, .unset, .unset, .unset, .unset, .unset] [])) t_ → Steps p.tables e below (s₁.setTop (entryFrame m #[(.int p1), (.int p2), (.int p3), (.int p4), (.int p5)] maxLocals)) t_ := ⟨_, rfl, fun t_ k_ => pre128 _ (by
    show Steps p.tables e below (s₁.setTop (mkF m 169 #[.val (.int p1), .val (.int p2), .val (.int p3), .val (.int p4), .val (.int p5), .val (.int l1), .val (.int l2), .val (.int l3), .val (.int l4), .val (.int s1), .val (.int s2), .val (.int kd), .val (.int n0_), .val (.int n1_), .val (.int m0_), .unset, .unset, .unset, .unset, .unset, .unset, .unset, .unset, .unset, .unset, .unset, .unset, .unset, .unset, .unset] [(.int vm1_), (.int n1_)])) _
    refine XS.ixor X0.here hx rfl (hb hby at_169) rfl ?_
    show Steps p.tables e below (s₁.setTop (mkF m 170 #[.val (.int p1), .val (.int p2), .val (.int p3), .val (.int p4), .val (.int p5), .val (.int l1), .val (.int l2), .val (.int l3), .val (.int l4), .val (.int s1), .val (.int s2), .val (.int kd), .val (.int n0_), .val (.int n1_), .val (.int m0_), .unset, .unset, .unset, .unset, .unset, .unset, .unset, .unset, .unset, .unset, .unset, .unset, .unset, .unset, .unset] [(.int (n1_ ^^^ vm1_))])) _
    refine XS.i2c X0.here hx rfl (hb hby at_170) rfl ?_
    show Steps p.tables e below (s₁.setTop (mkF m 171 #[.val (.int p1), .val (.int p2), .val (.int p3), .val (.int p4), .val (.int p5), .val (.int l1), .val (.int l2), .val (.int l3), .val (.int l4), .val (.int s1), .val (.int s2), .val (.int kd), .val (.int n0_), .val (.int n1_), .val (.int m0_), .unset, .unset, .unset, .unset, .unset, .unset, .unset, .unset, .unset, .unset, .unset, .unset, .unset, .unset, .unset] [(.int ((n1_ ^^^ vm1_).toUInt32.toUInt16.toUInt32.toInt32))])) _
    refine XS.istore X0.here hx rfl (hb hby at_171) rfl (l' := #[.val (.int p1), .val (.int p2), .val (.int p3), .val (.int p4), .val (.int p5), .val (.int l1), .val (.int l2), .val (.int l3), .val (.int l4), .val (.int s1), .val (.int s2), .val (.int kd), .val (.int n0_), .val (.int n1_), .val (.int m0_), .val (.int ((n1_ ^^^ vm1_).toUInt32.toUInt16.toUInt32.toInt32)), .unset, .unset, .unset, .unset, .unset, .unset, .unset, .unset, .unset, .unset, .unset, .unset, .unset, .unset]) rfl ?_
    exact k_)⟩
  have b_m1_ : own_b8 m1_ := by rw [hv_m1_]; exact own_c8 (own_xor8 b_n1_ hj_vm1_)
  obtain ⟨q0_, hv_q0_, pre132⟩ : ∃ z_ : Int32, z_ = ((p3 &&& (255 : Int32)).toUInt32.toUInt16.toUInt32.toInt32) ∧ ∀ t_, Steps p.tables e below (s₁.setTop (mkF m 192 #[.val (.int p1), .val (.int p2), .val (.int p3), .val (.int p4), .val (.int p5), .val (.int l1), .val (.int l2), .val (.int l3), .val (.int l4), .val (.int s1), .val (.int s2), .val (.int kd), .val (.int n0_), .val (.int n1_), .val (.int m0_), .val (.int m1_), .val (.int z_), .val (.int ((((p3.toUInt32 >>> ((8 : Int32) &&& 31).toUInt32).toInt32) &&& (255 : Int32)).toUInt32.toUInt16.toUInt32.toInt32)), .unset, .unset, .unset, .unset, .unset, .unset, .unset, .unset, .unset, .unset, .unset, .unset] [])) t_ → Steps p.tables e below (s₁.setTop (entryFrame m #[(.int p1), (.int p2), (.int p3), (.int p4), (.int p5)] maxLocals)) t_ := ⟨_, rfl, fun t_ k_ => pre131 _ (by
    show Steps p.tables e below (s₁.setTop (mkF m 173 #[.val (.int p1), .val (.int p2), .val (.int p3), .val (.int p4), .val (.int p5), .val (.int l1), .val (.int l2), .val (.int l3), .val (.int l4), .val (.int s1), .val (.int s2), .val (.int kd), .val (.int n0_), .val (.int n1_), .val (.int m0_), .val (.int m1_), .unset, .unset, .unset, .unset, .unset, .unset, .unset, .unset, .unset, .unset, .unset, .unset, .unset, .unset] [])) _
    refine XS.iloadN X0.here hx rfl (hb hby at_173) rfl ?_
    show Steps p.tables e below (s₁.setTop (mkF m 174 #[.val (.int p1), .val (.int p2), .val (.int p3), .val (.int p4), .val (.int p5), .val (.int l1), .val (.int l2), .val (.int l3), .val (.int l4), .val (.int s1), .val (.int s2), .val (.int kd), .val (.int n0_), .val (.int n1_), .val (.int m0_), .val (.int m1_), .unset, .unset, .unset, .unset, .unset, .unset, .unset, .unset, .unset, .unset, .unset, .unset, .unset, .unset] [(.int p3)])) _
    refine XS.sipush X0.here hx rfl (hb hby at_174) ?_
    show Steps p.tables e below (s₁.setTop (mkF m 177 #[.val (.int p1), .val (.int p2), .val (.int p3), .val (.int p4), .val (.int p5), .val (.int l1), .val (.int l2), .val (.int l3), .val (.int l4), .val (.int s1), .val (.int s2), .val (.int kd), .val (.int n0_), .val (.int n1_), .val (.int m0_), .val (.int m1_), .unset, .unset, .unset, .unset, .unset, .unset, .unset, .unset, .unset, .unset, .unset, .unset, .unset, .unset] [(.int (255 : Int32)), (.int p3)])) _
    refine XS.iand X0.here hx rfl (hb hby at_177) rfl ?_
    show Steps p.tables e below (s₁.setTop (mkF m 178 #[.val (.int p1), .val (.int p2), .val (.int p3), .val (.int p4), .val (.int p5), .val (.int l1), .val (.int l2), .val (.int l3), .val (.int l4), .val (.int s1), .val (.int s2), .val (.int kd), .val (.int n0_), .val (.int n1_), .val (.int m0_), .val (.int m1_), .unset, .unset, .unset, .unset, .unset, .unset, .unset, .unset, .unset, .unset, .unset, .unset, .unset, .unset] [(.int (p3 &&& (255 : Int32)))])) _
    refine XS.i2c X0.here hx rfl (hb hby at_178) rfl ?_
    show Steps p.tables e below (s₁.setTop (mkF m 179 #[.val (.int p1), .val (.int p2), .val (.int p3), .val (.int p4), .val (.int p5), .val (.int l1), .val (.int l2), .val (.int l3), .val (.int l4), .val (.int s1), .val (.int s2), .val (.int kd), .val (.int n0_), .val (.int n1_), .val (.int m0_), .val (.int m1_), .unset, .unset, .unset, .unset, .unset, .unset, .unset, .unset, .unset, .unset, .unset, .unset, .unset, .unset] [(.int ((p3 &&& (255 : Int32)).toUInt32.toUInt16.toUInt32.toInt32))])) _
    refine XS.istore X0.here hx rfl (hb hby at_179) rfl (l' := #[.val (.int p1), .val (.int p2), .val (.int p3), .val (.int p4), .val (.int p5), .val (.int l1), .val (.int l2), .val (.int l3), .val (.int l4), .val (.int s1), .val (.int s2), .val (.int kd), .val (.int n0_), .val (.int n1_), .val (.int m0_), .val (.int m1_), .val (.int ((p3 &&& (255 : Int32)).toUInt32.toUInt16.toUInt32.toInt32)), .unset, .unset, .unset, .unset, .unset, .unset, .unset, .unset, .unset, .unset, .unset, .unset, .unset]) rfl ?_
    show Steps p.tables e below (s₁.setTop (mkF m 181 #[.val (.int p1), .val (.int p2), .val (.int p3), .val (.int p4), .val (.int p5), .val (.int l1), .val (.int l2), .val (.int l3), .val (.int l4), .val (.int s1), .val (.int s2), .val (.int kd), .val (.int n0_), .val (.int n1_), .val (.int m0_), .val (.int m1_), .val (.int ((p3 &&& (255 : Int32)).toUInt32.toUInt16.toUInt32.toInt32)), .unset, .unset, .unset, .unset, .unset, .unset, .unset, .unset, .unset, .unset, .unset, .unset, .unset] [])) _
    refine XS.iloadN X0.here hx rfl (hb hby at_181) rfl ?_
    show Steps p.tables e below (s₁.setTop (mkF m 182 #[.val (.int p1), .val (.int p2), .val (.int p3), .val (.int p4), .val (.int p5), .val (.int l1), .val (.int l2), .val (.int l3), .val (.int l4), .val (.int s1), .val (.int s2), .val (.int kd), .val (.int n0_), .val (.int n1_), .val (.int m0_), .val (.int m1_), .val (.int ((p3 &&& (255 : Int32)).toUInt32.toUInt16.toUInt32.toInt32)), .unset, .unset, .unset, .unset, .unset, .unset, .unset, .unset, .unset, .unset, .unset, .unset, .unset] [(.int p3)])) _
    refine XS.bipush X0.here hx rfl (hb hby at_182) ?_
    show Steps p.tables e below (s₁.setTop (mkF m 184 #[.val (.int p1), .val (.int p2), .val (.int p3), .val (.int p4), .val (.int p5), .val (.int l1), .val (.int l2), .val (.int l3), .val (.int l4), .val (.int s1), .val (.int s2), .val (.int kd), .val (.int n0_), .val (.int n1_), .val (.int m0_), .val (.int m1_), .val (.int ((p3 &&& (255 : Int32)).toUInt32.toUInt16.toUInt32.toInt32)), .unset, .unset, .unset, .unset, .unset, .unset, .unset, .unset, .unset, .unset, .unset, .unset, .unset] [(.int (8 : Int32)), (.int p3)])) _
    refine XS.iushr X0.here hx rfl (hb hby at_184) rfl ?_
    show Steps p.tables e below (s₁.setTop (mkF m 185 #[.val (.int p1), .val (.int p2), .val (.int p3), .val (.int p4), .val (.int p5), .val (.int l1), .val (.int l2), .val (.int l3), .val (.int l4), .val (.int s1), .val (.int s2), .val (.int kd), .val (.int n0_), .val (.int n1_), .val (.int m0_), .val (.int m1_), .val (.int ((p3 &&& (255 : Int32)).toUInt32.toUInt16.toUInt32.toInt32)), .unset, .unset, .unset, .unset, .unset, .unset, .unset, .unset, .unset, .unset, .unset, .unset, .unset] [(.int ((p3.toUInt32 >>> ((8 : Int32) &&& 31).toUInt32).toInt32))])) _
    refine XS.sipush X0.here hx rfl (hb hby at_185) ?_
    show Steps p.tables e below (s₁.setTop (mkF m 188 #[.val (.int p1), .val (.int p2), .val (.int p3), .val (.int p4), .val (.int p5), .val (.int l1), .val (.int l2), .val (.int l3), .val (.int l4), .val (.int s1), .val (.int s2), .val (.int kd), .val (.int n0_), .val (.int n1_), .val (.int m0_), .val (.int m1_), .val (.int ((p3 &&& (255 : Int32)).toUInt32.toUInt16.toUInt32.toInt32)), .unset, .unset, .unset, .unset, .unset, .unset, .unset, .unset, .unset, .unset, .unset, .unset, .unset] [(.int (255 : Int32)), (.int ((p3.toUInt32 >>> ((8 : Int32) &&& 31).toUInt32).toInt32))])) _
    refine XS.iand X0.here hx rfl (hb hby at_188) rfl ?_
    show Steps p.tables e below (s₁.setTop (mkF m 189 #[.val (.int p1), .val (.int p2), .val (.int p3), .val (.int p4), .val (.int p5), .val (.int l1), .val (.int l2), .val (.int l3), .val (.int l4), .val (.int s1), .val (.int s2), .val (.int kd), .val (.int n0_), .val (.int n1_), .val (.int m0_), .val (.int m1_), .val (.int ((p3 &&& (255 : Int32)).toUInt32.toUInt16.toUInt32.toInt32)), .unset, .unset, .unset, .unset, .unset, .unset, .unset, .unset, .unset, .unset, .unset, .unset, .unset] [(.int (((p3.toUInt32 >>> ((8 : Int32) &&& 31).toUInt32).toInt32) &&& (255 : Int32)))])) _
    refine XS.i2c X0.here hx rfl (hb hby at_189) rfl ?_
    show Steps p.tables e below (s₁.setTop (mkF m 190 #[.val (.int p1), .val (.int p2), .val (.int p3), .val (.int p4), .val (.int p5), .val (.int l1), .val (.int l2), .val (.int l3), .val (.int l4), .val (.int s1), .val (.int s2), .val (.int kd), .val (.int n0_), .val (.int n1_), .val (.int m0_), .val (.int m1_), .val (.int ((p3 &&& (255 : Int32)).toUInt32.toUInt16.toUInt32.toInt32)), .unset, .unset, .unset, .unset, .unset, .unset, .unset, .unset, .unset, .unset, .unset, .unset, .unset] [(.int ((((p3.toUInt32 >>> ((8 : Int32) &&& 31).toUInt32).toInt32) &&& (255 : Int32)).toUInt32.toUInt16.toUInt32.toInt32))])) _
    refine XS.istore X0.here hx rfl (hb hby at_190) rfl (l' := #[.val (.int p1), .val (.int p2), .val (.int p3), .val (.int p4), .val (.int p5), .val (.int l1), .val (.int l2), .val (.int l3), .val (.int l4), .val (.int s1), .val (.int s2), .val (.int kd), .val (.int n0_), .val (.int n1_), .val (.int m0_), .val (.int m1_), .val (.int ((p3 &&& (255 : Int32)).toUInt32.toUInt16.toUInt32.toInt32)), .val (.int ((((p3.toUInt32 >>> ((8 : Int32) &&& 31).toUInt32).toInt32) &&& (255 : Int32)).toUInt32.toUInt16.toUInt32.toInt32)), .unset, .unset, .unset, .unset, .unset, .unset, .unset, .unset, .unset, .unset, .unset, .unset]) rfl ?_
    exact k_)⟩
  have b_q0_ : own_b8 q0_ := by rw [hv_q0_]; exact own_c8 (own_and8 _)
  obtain ⟨q1_, hv_q1_, pre133⟩ : ∃ z_ : Int32, z_ = ((((p3.toUInt32 >>> ((8 : Int32) &&& 31).toUInt32).toInt32) &&& (255 : Int32)).toUInt32.toUInt16.toUInt32.toInt32) ∧ ∀ t_, Steps p.tables e below (s₁.setTop (mkF m 192 #[.val (.int p1), .val (.int p2), .val (.int p3), .val (.int p4), .val (.int p5), .val (.int l1), .val (.int l2), .val (.int l3), .val (.int l4), .val (.int s1), .val (.int s2), .val (.int kd), .val (.int n0_), .val (.int n1_), .val (.int m0_), .val (.int m1_), .val (.int q0_), .val (.int z_), .unset, .unset, .unset, .unset, .unset, .unset, .unset, .unset, .unset, .unset, .unset, .unset] [])) t_ → Steps p.tables e below (s₁.setTop (entryFrame m #[(.int p1), (.int p2), (.int p3), (.int p4), (.int p5)] maxLocals)) t_ := ⟨_, rfl, fun t_ k_ => pre132 _ (by
    exact k_)⟩
  have b_q1_ : own_b8 q1_ := by rw [hv_q1_]; exact own_c8 (own_and8 _)
  have pre134 : ∀ t_, Steps p.tables e below (s₁.setTop (mkF m 196 #[.val (.int p1), .val (.int p2), .val (.int p3), .val (.int p4), .val (.int p5), .val (.int l1), .val (.int l2), .val (.int l3), .val (.int l4), .val (.int s1), .val (.int s2), .val (.int kd), .val (.int n0_), .val (.int n1_), .val (.int m0_), .val (.int m1_), .val (.int q0_), .val (.int q1_), .unset, .unset, .unset, .unset, .unset, .unset, .unset, .unset, .unset, .unset, .unset, .unset] [(.int s2), (.int q0_)])) t_ → Steps p.tables e below (s₁.setTop (entryFrame m #[(.int p1), (.int p2), (.int p3), (.int p4), (.int p5)] maxLocals)) t_ := fun t_ k_ => pre133 _ (by
    show Steps p.tables e below (s₁.setTop (mkF m 192 #[.val (.int p1), .val (.int p2), .val (.int p3), .val (.int p4), .val (.int p5), .val (.int l1), .val (.int l2), .val (.int l3), .val (.int l4), .val (.int s1), .val (.int s2), .val (.int kd), .val (.int n0_), .val (.int n1_), .val (.int m0_), .val (.int m1_), .val (.int q0_), .val (.int q1_), .unset, .unset, .unset, .unset, .unset, .unset, .unset, .unset, .unset, .unset, .unset, .unset] [])) _
    refine XS.iload X0.here hx rfl (hb hby at_192) rfl ?_
    show Steps p.tables e below (s₁.setTop (mkF m 194 #[.val (.int p1), .val (.int p2), .val (.int p3), .val (.int p4), .val (.int p5), .val (.int l1), .val (.int l2), .val (.int l3), .val (.int l4), .val (.int s1), .val (.int s2), .val (.int kd), .val (.int n0_), .val (.int n1_), .val (.int m0_), .val (.int m1_), .val (.int q0_), .val (.int q1_), .unset, .unset, .unset, .unset, .unset, .unset, .unset, .unset, .unset, .unset, .unset, .unset] [(.int q0_)])) _
    refine XS.iload X0.here hx rfl (hb hby at_194) rfl ?_
    exact k_)
  obtain ⟨vr0_, hj_vr0_, pre135⟩ : ∃ vr0_ : Int32, (own_b8 vr0_) ∧ ∀ t_, Steps p.tables e below (s₁.setTop (mkF m 208 #[.val (.int p1), .val (.int p2), .val (.int p3), .val (.int p4), .val (.int p5), .val (.int l1), .val (.int l2), .val (.int l3), .val (.int l4), .val (.int s1), .val (.int s2), .val (.int kd), .val (.int n0_), .val (.int n1_), .val (.int m0_), .val (.int m1_), .val (.int q0_), .val (.int q1_), .unset, .unset, .unset, .unset, .unset, .unset, .unset, .unset, .unset, .unset, .unset, .unset] [(.int vr0_), (.int q0_)])) t_ → Steps p.tables e below (s₁.setTop (entryFrame m #[(.int p1), (.int p2), (.int p3), (.int p4), (.int p5)] maxLocals)) t_ := by
    by_cases hf : s2 = (0 : Int32)
    · skip
      have pre136 : ∀ t_, Steps p.tables e below (s₁.setTop (mkF m 208 #[.val (.int p1), .val (.int p2), .val (.int p3), .val (.int p4), .val (.int p5), .val (.int l1), .val (.int l2), .val (.int l3), .val (.int l4), .val (.int s1), .val (.int s2), .val (.int kd), .val (.int n0_), .val (.int n1_), .val (.int m0_), .val (.int m1_), .val (.int q0_), .val (.int q1_), .unset, .unset, .unset, .unset, .unset, .unset, .unset, .unset, .unset, .unset, .unset, .unset] [(.int (p4 &&& (255 : Int32))), (.int q0_)])) t_ → Steps p.tables e below (s₁.setTop (entryFrame m #[(.int p1), (.int p2), (.int p3), (.int p4), (.int p5)] maxLocals)) t_ := fun t_ k_ => pre134 _ (by
        show Steps p.tables e below (s₁.setTop (mkF m 196 #[.val (.int p1), .val (.int p2), .val (.int p3), .val (.int p4), .val (.int p5), .val (.int l1), .val (.int l2), .val (.int l3), .val (.int l4), .val (.int s1), .val (.int s2), .val (.int kd), .val (.int n0_), .val (.int n1_), .val (.int m0_), .val (.int m1_), .val (.int q0_), .val (.int q1_), .unset, .unset, .unset, .unset, .unset, .unset, .unset, .unset, .unset, .unset, .unset, .unset] [(.int s2), (.int q0_)])) _
        refine XS.ifYes X0.here hx rfl (pc0 := 196) (pc' := 203) rfl (hb hby at_196) rfl ((if0 _ _).trans (teq hf).1) (by decide) (by decide) ?_
        show Steps p.tables e below (s₁.setTop (mkF m 203 #[.val (.int p1), .val (.int p2), .val (.int p3), .val (.int p4), .val (.int p5), .val (.int l1), .val (.int l2), .val (.int l3), .val (.int l4), .val (.int s1), .val (.int s2), .val (.int kd), .val (.int n0_), .val (.int n1_), .val (.int m0_), .val (.int m1_), .val (.int q0_), .val (.int q1_), .unset, .unset, .unset, .unset, .unset, .unset, .unset, .unset, .unset, .unset, .unset, .unset] [(.int q0_)])) _
        refine XS.iloadN X0.here hx rfl (hb hby at_203) rfl ?_
        show Steps p.tables e below (s₁.setTop (mkF m 204 #[.val (.int p1), .val (.int p2), .val (.int p3), .val (.int p4), .val (.int p5), .val (.int l1), .val (.int l2), .val (.int l3), .val (.int l4), .val (.int s1), .val (.int s2), .val (.int kd), .val (.int n0_), .val (.int n1_), .val (.int m0_), .val (.int m1_), .val (.int q0_), .val (.int q1_), .unset, .unset, .unset, .unset, .unset, .unset, .unset, .unset, .unset, .unset, .unset, .unset] [(.int p4), (.int q0_)])) _
        refine XS.sipush X0.here hx rfl (hb hby at_204) ?_
        show Steps p.tables e below (s₁.setTop (mkF m 207 #[.val (.int p1), .val (.int p2), .val (.int p3), .val (.int p4), .val (.int p5), .val (.int l1), .val (.int l2), .val (.int l3), .val (.int l4), .val (.int s1), .val (.int s2), .val (.int kd), .val (.int n0_), .val (.int n1_), .val (.int m0_), .val (.int m1_), .val (.int q0_), .val (.int q1_), .unset, .unset, .unset, .unset, .unset, .unset, .unset, .unset, .unset, .unset, .unset, .unset] [(.int (255 : Int32)), (.int p4), (.int q0_)])) _
        refine XS.iand X0.here hx rfl (hb hby at_207) rfl ?_
        exact k_)
      exact ⟨(p4 &&& (255 : Int32)), own_and8 _, pre136⟩
    · skip
      have pre137 : ∀ t_, Steps p.tables e below (s₁.setTop (mkF m 208 #[.val (.int p1), .val (.int p2), .val (.int p3), .val (.int p4), .val (.int p5), .val (.int l1), .val (.int l2), .val (.int l3), .val (.int l4), .val (.int s1), .val (.int s2), .val (.int kd), .val (.int n0_), .val (.int n1_), .val (.int m0_), .val (.int m1_), .val (.int q0_), .val (.int q1_), .unset, .unset, .unset, .unset, .unset, .unset, .unset, .unset, .unset, .unset, .unset, .unset] [(.int (0 : Int32)), (.int q0_)])) t_ → Steps p.tables e below (s₁.setTop (entryFrame m #[(.int p1), (.int p2), (.int p3), (.int p4), (.int p5)] maxLocals)) t_ := fun t_ k_ => pre134 _ (by
        show Steps p.tables e below (s₁.setTop (mkF m 196 #[.val (.int p1), .val (.int p2), .val (.int p3), .val (.int p4), .val (.int p5), .val (.int l1), .val (.int l2), .val (.int l3), .val (.int l4), .val (.int s1), .val (.int s2), .val (.int kd), .val (.int n0_), .val (.int n1_), .val (.int m0_), .val (.int m1_), .val (.int q0_), .val (.int q1_), .unset, .unset, .unset, .unset, .unset, .unset, .unset, .unset, .unset, .unset, .unset, .unset] [(.int s2), (.int q0_)])) _
        refine XS.ifNo X0.here hx rfl (hb hby at_196) rfl ((if0 _ _).trans (feq hf).1) ?_
        show Steps p.tables e below (s₁.setTop (mkF m 199 #[.val (.int p1), .val (.int p2), .val (.int p3), .val (.int p4), .val (.int p5), .val (.int l1), .val (.int l2), .val (.int l3), .val (.int l4), .val (.int s1), .val (.int s2), .val (.int kd), .val (.int n0_), .val (.int n1_), .val (.int m0_), .val (.int m1_), .val (.int q0_), .val (.int q1_), .unset, .unset, .unset, .unset, .unset, .unset, .unset, .unset, .unset, .unset, .unset, .unset] [(.int q0_)])) _
        refine XS.iconst X0.here hx rfl (hb hby at_199) ?_
        show Steps p.tables e below (s₁.setTop (mkF m 200 #[.val (.int p1), .val (.int p2), .val (.int p3), .val (.int p4), .val (.int p5), .val (.int l1), .val (.int l2), .val (.int l3), .val (.int l4), .val (.int s1), .val (.int s2), .val (.int kd), .val (.int n0_), .val (.int n1_), .val (.int m0_), .val (.int m1_), .val (.int q0_), .val (.int q1_), .unset, .unset, .unset, .unset, .unset, .unset, .unset, .unset, .unset, .unset, .unset, .unset] [(.int (0 : Int32)), (.int q0_)])) _
        refine XS.goto X0.here hx rfl (pc0 := 200) (pc' := 208) rfl (hb hby at_200) (by decide) (by decide) ?_
        exact k_)
      exact ⟨(0 : Int32), own_zero8, pre137⟩
  obtain ⟨r0_, hv_r0_, pre138⟩ : ∃ z_ : Int32, z_ = ((q0_ ^^^ vr0_).toUInt32.toUInt16.toUInt32.toInt32) ∧ ∀ t_, Steps p.tables e below (s₁.setTop (mkF m 212 #[.val (.int p1), .val (.int p2), .val (.int p3), .val (.int p4), .val (.int p5), .val (.int l1), .val (.int l2), .val (.int l3), .val (.int l4), .val (.int s1), .val (.int s2), .val (.int kd), .val (.int n0_), .val (.int n1_), .val (.int m0_), .val (.int m1_), .val (.int q0_), .val (.int q1_), .val (.int z_), .unset, .unset, .unset, .unset, .unset, .unset, .unset, .unset, .unset, .unset, .unset] [])) t_ → Steps p.tables e below (s₁.setTop (entryFrame m #[(.int p1), (.int p2), (.int p3), (.int p4), (.int p5)] maxLocals)) t_ := ⟨_, rfl, fun t_ k_ => pre135 _ (by
    show Steps p.tables e below (s₁.setTop (mkF m 208 #[.val (.int p1), .val (.int p2), .val (.int p3), .val (.int p4), .val (.int p5), .val (.int l1), .val (.int l2), .val (.int l3), .val (.int l4), .val (.int s1), .val (.int s2), .val (.int kd), .val (.int n0_), .val (.int n1_), .val (.int m0_), .val (.int m1_), .val (.int q0_), .val (.int q1_), .unset, .unset, .unset, .unset, .unset, .unset, .unset, .unset, .unset, .unset, .unset, .unset] [(.int vr0_), (.int q0_)])) _
    refine XS.ixor X0.here hx rfl (hb hby at_208) rfl ?_
    show Steps p.tables e below (s₁.setTop (mkF m 209 #[.val (.int p1), .val (.int p2), .val (.int p3), .val (.int p4), .val (.int p5), .val (.int l1), .val (.int l2), .val (.int l3), .val (.int l4), .val (.int s1), .val (.int s2), .val (.int kd), .val (.int n0_), .val (.int n1_), .val (.int m0_), .val (.int m1_), .val (.int q0_), .val (.int q1_), .unset, .unset, .unset, .unset, .unset, .unset, .unset, .unset, .unset, .unset, .unset, .unset] [(.int (q0_ ^^^ vr0_))])) _
    refine XS.i2c X0.here hx rfl (hb hby at_209) rfl ?_
    show Steps p.tables e below (s₁.setTop (mkF m 210 #[.val (.int p1), .val (.int p2), .val (.int p3), .val (.int p4), .val (.int p5), .val (.int l1), .val (.int l2), .val (.int l3), .val (.int l4), .val (.int s1), .val (.int s2), .val (.int kd), .val (.int n0_), .val (.int n1_), .val (.int m0_), .val (.int m1_), .val (.int q0_), .val (.int q1_), .unset, .unset, .unset, .unset, .unset, .unset, .unset, .unset, .unset, .unset, .unset, .unset] [(.int ((q0_ ^^^ vr0_).toUInt32.toUInt16.toUInt32.toInt32))])) _
    refine XS.istore X0.here hx rfl (hb hby at_210) rfl (l' := #[.val (.int p1), .val (.int p2), .val (.int p3), .val (.int p4), .val (.int p5), .val (.int l1), .val (.int l2), .val (.int l3), .val (.int l4), .val (.int s1), .val (.int s2), .val (.int kd), .val (.int n0_), .val (.int n1_), .val (.int m0_), .val (.int m1_), .val (.int q0_), .val (.int q1_), .val (.int ((q0_ ^^^ vr0_).toUInt32.toUInt16.toUInt32.toInt32)), .unset, .unset, .unset, .unset, .unset, .unset, .unset, .unset, .unset, .unset, .unset]) rfl ?_
    exact k_)⟩
  have b_r0_ : own_b8 r0_ := by rw [hv_r0_]; exact own_c8 (own_xor8 b_q0_ hj_vr0_)
  have pre139 : ∀ t_, Steps p.tables e below (s₁.setTop (mkF m 216 #[.val (.int p1), .val (.int p2), .val (.int p3), .val (.int p4), .val (.int p5), .val (.int l1), .val (.int l2), .val (.int l3), .val (.int l4), .val (.int s1), .val (.int s2), .val (.int kd), .val (.int n0_), .val (.int n1_), .val (.int m0_), .val (.int m1_), .val (.int q0_), .val (.int q1_), .val (.int r0_), .unset, .unset, .unset, .unset, .unset, .unset, .unset, .unset, .unset, .unset, .unset] [(.int s2), (.int q1_)])) t_ → Steps p.tables e below (s₁.setTop (entryFrame m #[(.int p1), (.int p2), (.int p3), (.int p4), (.int p5)] maxLocals)) t_ := fun t_ k_ => pre138 _ (by
    show Steps p.tables e below (s₁.setTop (mkF m 212 #[.val (.int p1), .val (.int p2), .val (.int p3), .val (.int p4), .val (.int p5), .val (.int l1), .val (.int l2), .val (.int l3), .val (.int l4), .val (.int s1), .val (.int s2), .val (.int kd), .val (.int n0_), .val (.int n1_), .val (.int m0_), .val (.int m1_), .val (.int q0_), .val (.int q1_), .val (.int r0_), .unset, .unset, .unset, .unset, .unset, .unset, .unset, .unset, .unset, .unset, .unset] [])) _
    refine XS.iload X0.here hx rfl (hb hby at_212) rfl ?_
    show Steps p.tables e below (s₁.setTop (mkF m 214 #[.val (.int p1), .val (.int p2), .val (.int p3), .val (.int p4), .val (.int p5), .val (.int l1), .val (.int l2), .val (.int l3), .val (.int l4), .val (.int s1), .val (.int s2), .val (.int kd), .val (.int n0_), .val (.int n1_), .val (.int m0_), .val (.int m1_), .val (.int q0_), .val (.int q1_), .val (.int r0_), .unset, .unset, .unset, .unset, .unset, .unset, .unset, .unset, .unset, .unset, .unset] [(.int q1_)])) _
    refine XS.iload X0.here hx rfl (hb hby at_214) rfl ?_
    exact k_)
  obtain ⟨vr1_, hj_vr1_, pre140⟩ : ∃ vr1_ : Int32, (own_b8 vr1_) ∧ ∀ t_, Steps p.tables e below (s₁.setTop (mkF m 231 #[.val (.int p1), .val (.int p2), .val (.int p3), .val (.int p4), .val (.int p5), .val (.int l1), .val (.int l2), .val (.int l3), .val (.int l4), .val (.int s1), .val (.int s2), .val (.int kd), .val (.int n0_), .val (.int n1_), .val (.int m0_), .val (.int m1_), .val (.int q0_), .val (.int q1_), .val (.int r0_), .unset, .unset, .unset, .unset, .unset, .unset, .unset, .unset, .unset, .unset, .unset] [(.int vr1_), (.int q1_)])) t_ → Steps p.tables e below (s₁.setTop (entryFrame m #[(.int p1), (.int p2), (.int p3), (.int p4), (.int p5)] maxLocals)) t_ := by
    by_cases hf : s2 = (0 : Int32)
    · skip
      have pre141 : ∀ t_, Steps p.tables e below (s₁.setTop (mkF m 231 #[.val (.int p1), .val (.int p2), .val (.int p3), .val (.int p4), .val (.int p5), .val (.int l1), .val (.int l2), .val (.int l3), .val (.int l4), .val (.int s1), .val (.int s2), .val (.int kd), .val (.int n0_), .val (.int n1_), .val (.int m0_), .val (.int m1_), .val (.int q0_), .val (.int q1_), .val (.int r0_), .unset, .unset, .unset, .unset, .unset, .unset, .unset, .unset, .unset, .unset, .unset] [(.int (((p4.toUInt32 >>> ((8 : Int32) &&& 31).toUInt32).toInt32) &&& (255 : Int32))), (.int q1_)])) t_ → Steps p.tables e below (s₁.setTop (entryFrame m #[(.int p1), (.int p2), (.int p3), (.int p4), (.int p5)] maxLocals)) t_ := fun t_ k_ => pre139 _ (by
        show Steps p.tables e below (s₁.setTop (mkF m 216 #[.val (.int p1), .val (.int p2), .val (.int p3), .val (.int p4), .val (.int p5), .val (.int l1), .val (.int l2), .val (.int l3), .val (.int l4), .val (.int s1), .val (.int s2), .val (.int kd), .val (.int n0_), .val (.int n1_), .val (.int m0_), .val (.int m1_), .val (.int q0_), .val (.int q1_), .val (.int r0_), .unset, .unset, .unset, .unset, .unset, .unset, .unset, .unset, .unset, .unset, .unset] [(.int s2), (.int q1_)])) _
        refine XS.ifYes X0.here hx rfl (pc0 := 216) (pc' := 223) rfl (hb hby at_216) rfl ((if0 _ _).trans (teq hf).1) (by decide) (by decide) ?_
        show Steps p.tables e below (s₁.setTop (mkF m 223 #[.val (.int p1), .val (.int p2), .val (.int p3), .val (.int p4), .val (.int p5), .val (.int l1), .val (.int l2), .val (.int l3), .val (.int l4), .val (.int s1), .val (.int s2), .val (.int kd), .val (.int n0_), .val (.int n1_), .val (.int m0_), .val (.int m1_), .val (.int q0_), .val (.int q1_), .val (.int r0_), .unset, .unset, .unset, .unset, .unset, .unset, .unset, .unset, .unset, .unset, .unset] [(.int q1_)])) _
        refine XS.iloadN X0.here hx rfl (hb hby at_223) rfl ?_
        show Steps p.tables e below (s₁.setTop (mkF m 224 #[.val (.int p1), .val (.int p2), .val (.int p3), .val (.int p4), .val (.int p5), .val (.int l1), .val (.int l2), .val (.int l3), .val (.int l4), .val (.int s1), .val (.int s2), .val (.int kd), .val (.int n0_), .val (.int n1_), .val (.int m0_), .val (.int m1_), .val (.int q0_), .val (.int q1_), .val (.int r0_), .unset, .unset, .unset, .unset, .unset, .unset, .unset, .unset, .unset, .unset, .unset] [(.int p4), (.int q1_)])) _
        refine XS.bipush X0.here hx rfl (hb hby at_224) ?_
        show Steps p.tables e below (s₁.setTop (mkF m 226 #[.val (.int p1), .val (.int p2), .val (.int p3), .val (.int p4), .val (.int p5), .val (.int l1), .val (.int l2), .val (.int l3), .val (.int l4), .val (.int s1), .val (.int s2), .val (.int kd), .val (.int n0_), .val (.int n1_), .val (.int m0_), .val (.int m1_), .val (.int q0_), .val (.int q1_), .val (.int r0_), .unset, .unset, .unset, .unset, .unset, .unset, .unset, .unset, .unset, .unset, .unset] [(.int (8 : Int32)), (.int p4), (.int q1_)])) _
        refine XS.iushr X0.here hx rfl (hb hby at_226) rfl ?_
        show Steps p.tables e below (s₁.setTop (mkF m 227 #[.val (.int p1), .val (.int p2), .val (.int p3), .val (.int p4), .val (.int p5), .val (.int l1), .val (.int l2), .val (.int l3), .val (.int l4), .val (.int s1), .val (.int s2), .val (.int kd), .val (.int n0_), .val (.int n1_), .val (.int m0_), .val (.int m1_), .val (.int q0_), .val (.int q1_), .val (.int r0_), .unset, .unset, .unset, .unset, .unset, .unset, .unset, .unset, .unset, .unset, .unset] [(.int ((p4.toUInt32 >>> ((8 : Int32) &&& 31).toUInt32).toInt32)), (.int q1_)])) _
        refine XS.sipush X0.here hx rfl (hb hby at_227) ?_
        show Steps p.tables e below (s₁.setTop (mkF m 230 #[.val (.int p1), .val (.int p2), .val (.int p3), .val (.int p4), .val (.int p5), .val (.int l1), .val (.int l2), .val (.int l3), .val (.int l4), .val (.int s1), .val (.int s2), .val (.int kd), .val (.int n0_), .val (.int n1_), .val (.int m0_), .val (.int m1_), .val (.int q0_), .val (.int q1_), .val (.int r0_), .unset, .unset, .unset, .unset, .unset, .unset, .unset, .unset, .unset, .unset, .unset] [(.int (255 : Int32)), (.int ((p4.toUInt32 >>> ((8 : Int32) &&& 31).toUInt32).toInt32)), (.int q1_)])) _
        refine XS.iand X0.here hx rfl (hb hby at_230) rfl ?_
        exact k_)
      exact ⟨(((p4.toUInt32 >>> ((8 : Int32) &&& 31).toUInt32).toInt32) &&& (255 : Int32)), own_and8 _, pre141⟩
    · skip
      have pre142 : ∀ t_, Steps p.tables e below (s₁.setTop (mkF m 231 #[.val (.int p1), .val (.int p2), .val (.int p3), .val (.int p4), .val (.int p5), .val (.int l1), .val (.int l2), .val (.int l3), .val (.int l4), .val (.int s1), .val (.int s2), .val (.int kd), .val (.int n0_), .val (.int n1_), .val (.int m0_), .val (.int m1_), .val (.int q0_), .val (.int q1_), .val (.int r0_), .unset, .unset, .unset, .unset, .unset, .unset, .unset, .unset, .unset, .unset, .unset] [(.int (0 : Int32)), (.int q1_)])) t_ → Steps p.tables e below (s₁.setTop (entryFrame m #[(.int p1), (.int p2), (.int p3), (.int p4), (.int p5)] maxLocals)) t_ := fun t_ k_ => pre139 _ (by
        show Steps p.tables e below (s₁.setTop (mkF m 216 #[.val (.int p1), .val (.int p2), .val (.int p3), .val (.int p4), .val (.int p5), .val (.int l1), .val (.int l2), .val (.int l3), .val (.int l4), .val (.int s1), .val (.int s2), .val (.int kd), .val (.int n0_), .val (.int n1_), .val (.int m0_), .val (.int m1_), .val (.int q0_), .val (.int q1_), .val (.int r0_), .unset, .unset, .unset, .unset, .unset, .unset, .unset, .unset, .unset, .unset, .unset] [(.int s2), (.int q1_)])) _
        refine XS.ifNo X0.here hx rfl (hb hby at_216) rfl ((if0 _ _).trans (feq hf).1) ?_
        show Steps p.tables e below (s₁.setTop (mkF m 219 #[.val (.int p1), .val (.int p2), .val (.int p3), .val (.int p4), .val (.int p5), .val (.int l1), .val (.int l2), .val (.int l3), .val (.int l4), .val (.int s1), .val (.int s2), .val (.int kd), .val (.int n0_), .val (.int n1_), .val (.int m0_), .val (.int m1_), .val (.int q0_), .val (.int q1_), .val (.int r0_), .unset, .unset, .unset, .unset, .unset, .unset, .unset, .unset, .unset, .unset, .unset] [(.int q1_)])) _
        refine XS.iconst X0.here hx rfl (hb hby at_219) ?_
        show Steps p.tables e below (s₁.setTop (mkF m 220 #[.val (.int p1), .val (.int p2), .val (.int p3), .val (.int p4), .val (.int p5), .val (.int l1), .val (.int l2), .val (.int l3), .val (.int l4), .val (.int s1), .val (.int s2), .val (.int kd), .val (.int n0_), .val (.int n1_), .val (.int m0_), .val (.int m1_), .val (.int q0_), .val (.int q1_), .val (.int r0_), .unset, .unset, .unset, .unset, .unset, .unset, .unset, .unset, .unset, .unset, .unset] [(.int (0 : Int32)), (.int q1_)])) _
        refine XS.goto X0.here hx rfl (pc0 := 220) (pc' := 231) rfl (hb hby at_220) (by decide) (by decide) ?_
        exact k_)
      exact ⟨(0 : Int32), own_zero8, pre142⟩
  obtain ⟨r1_, hv_r1_, pre143⟩ : ∃ z_ : Int32, z_ = ((q1_ ^^^ vr1_).toUInt32.toUInt16.toUInt32.toInt32) ∧ ∀ t_, Steps p.tables e below (s₁.setTop (mkF m 235 #[.val (.int p1), .val (.int p2), .val (.int p3), .val (.int p4), .val (.int p5), .val (.int l1), .val (.int l2), .val (.int l3), .val (.int l4), .val (.int s1), .val (.int s2), .val (.int kd), .val (.int n0_), .val (.int n1_), .val (.int m0_), .val (.int m1_), .val (.int q0_), .val (.int q1_), .val (.int r0_), .val (.int z_), .unset, .unset, .unset, .unset, .unset, .unset, .unset, .unset, .unset, .unset] [])) t_ → Steps p.tables e below (s₁.setTop (entryFrame m #[(.int p1), (.int p2), (.int p3), (.int p4), (.int p5)] maxLocals)) t_ := ⟨_, rfl, fun t_ k_ => pre140 _ (by
    show Steps p.tables e below (s₁.setTop (mkF m 231 #[.val (.int p1), .val (.int p2), .val (.int p3), .val (.int p4), .val (.int p5), .val (.int l1), .val (.int l2), .val (.int l3), .val (.int l4), .val (.int s1), .val (.int s2), .val (.int kd), .val (.int n0_), .val (.int n1_), .val (.int m0_), .val (.int m1_), .val (.int q0_), .val (.int q1_), .val (.int r0_), .unset, .unset, .unset, .unset, .unset, .unset, .unset, .unset, .unset, .unset, .unset] [(.int vr1_), (.int q1_)])) _
    refine XS.ixor X0.here hx rfl (hb hby at_231) rfl ?_
    show Steps p.tables e below (s₁.setTop (mkF m 232 #[.val (.int p1), .val (.int p2), .val (.int p3), .val (.int p4), .val (.int p5), .val (.int l1), .val (.int l2), .val (.int l3), .val (.int l4), .val (.int s1), .val (.int s2), .val (.int kd), .val (.int n0_), .val (.int n1_), .val (.int m0_), .val (.int m1_), .val (.int q0_), .val (.int q1_), .val (.int r0_), .unset, .unset, .unset, .unset, .unset, .unset, .unset, .unset, .unset, .unset, .unset] [(.int (q1_ ^^^ vr1_))])) _
    refine XS.i2c X0.here hx rfl (hb hby at_232) rfl ?_
    show Steps p.tables e below (s₁.setTop (mkF m 233 #[.val (.int p1), .val (.int p2), .val (.int p3), .val (.int p4), .val (.int p5), .val (.int l1), .val (.int l2), .val (.int l3), .val (.int l4), .val (.int s1), .val (.int s2), .val (.int kd), .val (.int n0_), .val (.int n1_), .val (.int m0_), .val (.int m1_), .val (.int q0_), .val (.int q1_), .val (.int r0_), .unset, .unset, .unset, .unset, .unset, .unset, .unset, .unset, .unset, .unset, .unset] [(.int ((q1_ ^^^ vr1_).toUInt32.toUInt16.toUInt32.toInt32))])) _
    refine XS.istore X0.here hx rfl (hb hby at_233) rfl (l' := #[.val (.int p1), .val (.int p2), .val (.int p3), .val (.int p4), .val (.int p5), .val (.int l1), .val (.int l2), .val (.int l3), .val (.int l4), .val (.int s1), .val (.int s2), .val (.int kd), .val (.int n0_), .val (.int n1_), .val (.int m0_), .val (.int m1_), .val (.int q0_), .val (.int q1_), .val (.int r0_), .val (.int ((q1_ ^^^ vr1_).toUInt32.toUInt16.toUInt32.toInt32)), .unset, .unset, .unset, .unset, .unset, .unset, .unset, .unset, .unset, .unset]) rfl ?_
    exact k_)⟩
  have b_r1_ : own_b8 r1_ := by rw [hv_r1_]; exact own_c8 (own_xor8 b_q1_ hj_vr1_)
  obtain ⟨_, _, ⟨T144, L144, k144, n144⟩, -, X144, hS144, hle144, ⟨Lc144, hQ144, l144, y144, z144, hC144⟩, st144⟩ := callSS (s := (s.setVm s.vm)) X0 hx (y := (⟨"com/example/cranfield/cranfield/model/TopicEqualsPinLaw", "str", "(ICC)Ljava/lang/String;"⟩ : MethodName)) hown (mvT hZ (hw _ (List.mem_of_getElem? (i := 0) rfl))) (mvT hZ (hw _ (List.mem_of_getElem? (i := 1) rfl))) (mvT hZ (hw _ (List.mem_of_getElem? (i := 2) rfl))) (mvT hZ (hw _ (List.mem_of_getElem? (i := 3) rfl))) (by decide) (backOfSH (s := s) (vm0 := s.vm) (W := 0) (rmStr l Z a0 hw [] l1 n0_ n1_ zc h0 n0 Z0 O S_c hzc b_n0_ b_n1_) hZ (hw _ (List.mem_of_getElem? (i := 3) rfl)) (hw _ (List.mem_of_getElem? (i := 2) rfl)) (by decide) (by decide) (own_EW hw) (CHr.refl hH).1) (g := (mkF m 241 #[.val (.int p1), .val (.int p2), .val (.int p3), .val (.int p4), .val (.int p5), .val (.int l1), .val (.int l2), .val (.int l3), .val (.int l4), .val (.int s1), .val (.int s2), .val (.int kd), .val (.int n0_), .val (.int n1_), .val (.int m0_), .val (.int m1_), .val (.int q0_), .val (.int q1_), .val (.int r0_), .val (.int r1_), .unset, .unset, .unset, .unset, .unset, .unset, .unset, .unset, .unset, .unset] [(.int n1_), (.int n0_), (.int l1)])) rfl (by rw [hml]; rfl) (argsL := [(.int l1), (.int n0_), (.int n1_)]) (rest := []) (lenOf pd_4 rfl) rfl (by show 2 * 0 + _ ≤ _; exact Nat.le_of_eq rfl) (hb hby at_241) (fun _ _ => ⟨rfl, e0, (by decide : 0 + 6 ≤ _), (by decide : 0 + 12 ≤ _)⟩)
  dsimp only [Pt.U, Pt.locs, Pt.cells, Pt.slots] at X144 l144 y144 z144 st144 hQ144 hS144 hle144 hC144
  subst l144 y144 z144
  have hle144' : h0.size ≤ T144.heap.size := by have q := hle144; rw [e0] at q; exact q
  obtain ⟨X144', hS144', hZ144, hown144⟩ := rebS (s := s) (vm0 := s.vm) ((State.WarmedH.refl s).since 0) (Nat.zero_le _) X144 hS144 hle144' hZ hown
  obtain ⟨x0, rfl, N144q, K144, Ts144, lx144⟩ := hQ144
  have N144 := Fr.app N0 N144q
  have ch145 := (CHr.refl hH).trans hC144
  have O_146 := O.keep K144 all0
  have Z147 : n0 ≤ T144.heap.size := Nat.le_trans Z0 (K144.1)
  obtain ⟨_, _, ⟨T148, L148, k148, n148⟩, -, X148, hS148, hle148, ⟨Lc148, hQ148, l148, y148, z148, hC148⟩, st148⟩ := callSS (s := (s.setVm T144.vm)) X144' hx (y := (⟨"com/example/cranfield/cranfield/model/TopicEqualsPinLaw", "str", "(ICC)Ljava/lang/String;"⟩ : MethodName)) hown144 (mvT hZ144 (hw _ (List.mem_of_getElem? (i := 0) rfl))) (mvT hZ144 (hw _ (List.mem_of_getElem? (i := 1) rfl))) (mvT hZ144 (hw _ (List.mem_of_getElem? (i := 2) rfl))) (mvT hZ144 (hw _ (List.mem_of_getElem? (i := 3) rfl))) (by decide) (backOfSH (s := s) (vm0 := T144.vm) (W := 0) (rmStr l Z a0 hw [] l2 m0_ m1_ zc T144.heap n0 Z147 O_146 S_c hzc b_m0_ b_m1_) hZ144 (hw _ (List.mem_of_getElem? (i := 3) rfl)) (hw _ (List.mem_of_getElem? (i := 2) rfl)) (by decide) (by decide) (own_EW hw) ch145.1) (g := (mkF m 252 #[.val (.int p1), .val (.int p2), .val (.int p3), .val (.int p4), .val (.int p5), .val (.int l1), .val (.int l2), .val (.int l3), .val (.int l4), .val (.int s1), .val (.int s2), .val (.int kd), .val (.int n0_), .val (.int n1_), .val (.int m0_), .val (.int m1_), .val (.int q0_), .val (.int q1_), .val (.int r0_), .val (.int r1_), .val (.ref x0), .unset, .unset, .unset, .unset, .unset, .unset, .unset, .unset, .unset] [(.int m1_), (.int m0_), (.int l2)])) rfl (by rw [hml]; rfl) (argsL := [(.int l2), (.int m0_), (.int m1_)]) (rest := []) (lenOf pd_4 rfl) rfl (by show 2 * 0 + _ ≤ _; exact Nat.le_of_eq rfl) (hb hby at_252) (fun _ _ => ⟨rfl, rfl, (by decide : 6 + 6 ≤ _), (by decide : 12 + 12 ≤ _)⟩)
  dsimp only [Pt.U, Pt.locs, Pt.cells, Pt.slots] at X148 l148 y148 z148 st148 hQ148 hS148 hle148 hC148
  subst l148 y148 z148
  have hle148' := hle148
  obtain ⟨X148', hS148', hZ148, hown148⟩ := rebS (s := s) (vm0 := T144.vm) hS144' (Nat.le_refl _) X148 hS148 hle148' hZ144 hown144
  obtain ⟨x1, rfl, N148q, K148, Ts148, lx148⟩ := hQ148
  have N148 := Fr.app N144 N148q
  have ch149 := ch145.trans hC148
  have T_150 := own_Strk Ts144 K148
  have O_151 := O_146.keep K148 all0
  have Z152 : n0 ≤ T148.heap.size := Nat.le_trans Z147 (K148.1)
  obtain ⟨_, _, ⟨T153, L153, k153, n153⟩, -, X153, hS153, hle153, ⟨Lc153, hQ153, l153, y153, z153, hC153⟩, st153⟩ := callSS (s := (s.setVm T148.vm)) X148' hx (y := (⟨"com/example/cranfield/cranfield/model/TopicEqualsPinLaw", "str", "(ICC)Ljava/lang/String;"⟩ : MethodName)) hown148 (mvT hZ148 (hw _ (List.mem_of_getElem? (i := 0) rfl))) (mvT hZ148 (hw _ (List.mem_of_getElem? (i := 1) rfl))) (mvT hZ148 (hw _ (List.mem_of_getElem? (i := 2) rfl))) (mvT hZ148 (hw _ (List.mem_of_getElem? (i := 3) rfl))) (by decide) (backOfSH (s := s) (vm0 := T148.vm) (W := 0) (rmStr l Z a0 hw [] l3 q0_ q1_ zc T148.heap n0 Z152 O_151 S_c hzc b_q0_ b_q1_) hZ148 (hw _ (List.mem_of_getElem? (i := 3) rfl)) (hw _ (List.mem_of_getElem? (i := 2) rfl)) (by decide) (by decide) (own_EW hw) ch149.1) (g := (mkF m 263 #[.val (.int p1), .val (.int p2), .val (.int p3), .val (.int p4), .val (.int p5), .val (.int l1), .val (.int l2), .val (.int l3), .val (.int l4), .val (.int s1), .val (.int s2), .val (.int kd), .val (.int n0_), .val (.int n1_), .val (.int m0_), .val (.int m1_), .val (.int q0_), .val (.int q1_), .val (.int r0_), .val (.int r1_), .val (.ref x0), .val (.ref x1), .unset, .unset, .unset, .unset, .unset, .unset, .unset, .unset] [(.int q1_), (.int q0_), (.int l3)])) rfl (by rw [hml]; rfl) (argsL := [(.int l3), (.int q0_), (.int q1_)]) (rest := []) (lenOf pd_4 rfl) rfl (by show 2 * 0 + _ ≤ _; exact Nat.le_of_eq rfl) (hb hby at_263) (fun _ _ => ⟨rfl, rfl, (by decide : 12 + 6 ≤ _), (by decide : 24 + 12 ≤ _)⟩)
  dsimp only [Pt.U, Pt.locs, Pt.cells, Pt.slots] at X153 l153 y153 z153 st153 hQ153 hS153 hle153 hC153
  subst l153 y153 z153
  have hle153' := hle153
  obtain ⟨X153', hS153', hZ153, hown153⟩ := rebS (s := s) (vm0 := T148.vm) hS148' (Nat.le_refl _) X153 hS153 hle153' hZ148 hown148
  obtain ⟨x2, rfl, N153q, K153, Ts153, lx153⟩ := hQ153
  have N153 := Fr.app N148 N153q
  have ch154 := ch149.trans hC153
  have T_155 := own_Strk T_150 K153
  have T_156 := own_Strk Ts148 K153
  have O_157 := O_151.keep K153 all0
  have Z158 : n0 ≤ T153.heap.size := Nat.le_trans Z152 (K153.1)
  obtain ⟨_, _, ⟨T159, L159, k159, n159⟩, -, X159, hS159, hle159, ⟨Lc159, hQ159, l159, y159, z159, hC159⟩, st159⟩ := callSS (s := (s.setVm T153.vm)) X153' hx (y := (⟨"com/example/cranfield/cranfield/model/TopicEqualsPinLaw", "str", "(ICC)Ljava/lang/String;"⟩ : MethodName)) hown153 (mvT hZ153 (hw _ (List.mem_of_getElem? (i := 0) rfl))) (mvT hZ153 (hw _ (List.mem_of_getElem? (i := 1) rfl))) (mvT hZ153 (hw _ (List.mem_of_getElem? (i := 2) rfl))) (mvT hZ153 (hw _ (List.mem_of_getElem? (i := 3) rfl))) (by decide) (backOfSH (s := s) (vm0 := T153.vm) (W := 0) (rmStr l Z a0 hw [] l4 r0_ r1_ zc T153.heap n0 Z158 O_157 S_c hzc b_r0_ b_r1_) hZ153 (hw _ (List.mem_of_getElem? (i := 3) rfl)) (hw _ (List.mem_of_getElem? (i := 2) rfl)) (by decide) (by decide) (own_EW hw) ch154.1) (g := (mkF m 274 #[.val (.int p1), .val (.int p2), .val (.int p3), .val (.int p4), .val (.int p5), .val (.int l1), .val (.int l2), .val (.int l3), .val (.int l4), .val (.int s1), .val (.int s2), .val (.int kd), .val (.int n0_), .val (.int n1_), .val (.int m0_), .val (.int m1_), .val (.int q0_), .val (.int q1_), .val (.int r0_), .val (.int r1_), .val (.ref x0), .val (.ref x1), .val (.ref x2), .unset, .unset, .unset, .unset, .unset, .unset, .unset] [(.int r1_), (.int r0_), (.int l4)])) rfl (by rw [hml]; rfl) (argsL := [(.int l4), (.int r0_), (.int r1_)]) (rest := []) (lenOf pd_4 rfl) rfl (by show 2 * 0 + _ ≤ _; exact Nat.le_of_eq rfl) (hb hby at_274) (fun _ _ => ⟨rfl, rfl, (by decide : 18 + 6 ≤ _), (by decide : 36 + 12 ≤ _)⟩)
  dsimp only [Pt.U, Pt.locs, Pt.cells, Pt.slots] at X159 l159 y159 z159 st159 hQ159 hS159 hle159 hC159
  subst l159 y159 z159
  have hle159' := hle159
  obtain ⟨X159', hS159', hZ159, hown159⟩ := rebS (s := s) (vm0 := T153.vm) hS153' (Nat.le_refl _) X159 hS159 hle159' hZ153 hown153
  obtain ⟨x3, rfl, N159q, K159, Ts159, lx159⟩ := hQ159
  have N159 := Fr.app N153 N159q
  have ch160 := ch154.trans hC159
  have T_161 := own_Strk T_155 K159
  have T_162 := own_Strk T_156 K159
  have T_163 := own_Strk Ts153 K159
  have O_164 := O_157.keep K159 all0
  have Z165 : n0 ≤ T159.heap.size := Nat.le_trans Z158 (K159.1)
  obtain ⟨T166, h166, X166, e166, Ext_t1, E_t1, D_t1, -, st166⟩ := newO X159' hx hZ159 hown159 (hw _ (List.mem_of_getElem? (i := 26) rfl)) (hw _ (List.mem_of_getElem? (i := 27) rfl)) (hw _ (List.mem_of_getElem? (i := 28) rfl)) rfl (g := (mkF m 279 #[.val (.int p1), .val (.int p2), .val (.int p3), .val (.int p4), .val (.int p5), .val (.int l1), .val (.int l2), .val (.int l3), .val (.int l4), .val (.int s1), .val (.int s2), .val (.int kd), .val (.int n0_), .val (.int n1_), .val (.int m0_), .val (.int m1_), .val (.int q0_), .val (.int q1_), .val (.int r0_), .val (.int r1_), .val (.ref x0), .val (.ref x1), .val (.ref x2), .val (.ref x3), .unset, .unset, .unset, .unset, .unset, .unset] [])) rfl (hb hby at_279) (by decide) (by decide)
  obtain ⟨t1, eq_t1⟩ : ∃ z, z = T159.heap.size := ⟨_, rfl⟩
  rw [← eq_t1] at E_t1 D_t1 st166
  have g_t1 : n0 ≤ t1 := Nat.le_trans Z165 (Nat.le_of_eq eq_t1.symm)
  have O_167 := O_164.ext Ext_t1
  have Z168 : n0 ≤ h166.size := Nat.le_trans Z165 (Ext_t1.1)
  have hk169 := Nat.le_trans (Nat.le_refl _) (Ext_t1.1)
  have F0_t1 : Fld Z h166 t1 "com/example/cranfield/cranfield/model/Topic" "number" "Ljava/lang/String;" .null := D_t1 (Or.inr (hw _ (List.mem_of_getElem? (i := 40) rfl))) (ty := (.object "java/lang/String")) (by decide)
  have F1_t1 : Fld Z h166 t1 "com/example/cranfield/cranfield/model/Topic" "query" "Ljava/lang/String;" .null := D_t1 (Or.inr (hw _ (List.mem_of_getElem? (i := 43) rfl))) (ty := (.object "java/lang/String")) (by decide)
  obtain ⟨_, _, ⟨T170, L170, k170, n170⟩, -, X170, hS170, hle170, ⟨Lc170, hQ170, l170, y170, z170⟩, st170⟩ := Jvm.Stand.specialBackS (s := (s.setVm T159.vm)) X166 hx (y := (⟨"com/example/cranfield/cranfield/model/Topic", "<init>", "(Ljava/lang/String;Ljava/lang/String;)V"⟩ : MethodName)) rfl hown159 (mvT hZ159 (hw _ (List.mem_of_getElem? (i := 29) rfl))) (mvT hZ159 (hw _ (List.mem_of_getElem? (i := 30) rfl))) (mvT hZ159 (hw _ (List.mem_of_getElem? (i := 31) rfl))) (by decide) (backOfS (W := 1) (rmC l Z a0 hw [] t1 x0 x2 h166 n0 Z168 E_t1 F0_t1 F1_t1 g_t1 ((own_Stre T_161).ext Ext_t1) ((own_Stre T_163).ext Ext_t1)) hZ159 (hw _ (List.mem_of_getElem? (i := 31) rfl)) (hw _ (List.mem_of_getElem? (i := 28) rfl)) (by decide) (by decide)) (g := (mkF m 287 #[.val (.int p1), .val (.int p2), .val (.int p3), .val (.int p4), .val (.int p5), .val (.int l1), .val (.int l2), .val (.int l3), .val (.int l4), .val (.int s1), .val (.int s2), .val (.int kd), .val (.int n0_), .val (.int n1_), .val (.int m0_), .val (.int m1_), .val (.int q0_), .val (.int q1_), .val (.int r0_), .val (.int r1_), .val (.ref x0), .val (.ref x1), .val (.ref x2), .val (.ref x3), .unset, .unset, .unset, .unset, .unset, .unset] [(.ref x2), (.ref x0), (.ref t1), (.ref t1)])) rfl (by rw [hml]; rfl) (Steps.refl _) (a := t1) (argsL := [(.ref x0), (.ref x2)]) (rest := [(.ref t1)]) (lenOf pd_5 rfl) rfl (by show 2 * 0 + _ ≤ _; exact Nat.le_of_eq rfl) (hb hby at_287) (fun _ _ => ⟨rfl, e166, (by decide : 25 + 4 ≤ _), (by decide : 50 + 52 ≤ _)⟩)
  dsimp only [Pt.U, Pt.locs, Pt.cells, Pt.slots] at X170 l170 y170 z170 st170 hQ170 hS170 hle170
  subst l170 y170 z170
  have hle170' : h166.size ≤ T170.heap.size := by have q := hle170; rw [e166] at q; exact q
  obtain ⟨X170', hS170', hZ170, hown170⟩ := rebS (s := s) (vm0 := T159.vm) hS159' hk169 X170 hS170 hle170' hZ159 hown159
  obtain ⟨rfl, N170q, K170, E170, F0170, F1170⟩ := hQ170
  have N170 := Fr.app N159 N170q
  have KF170 := ((Keep.refl T159.heap []).ext Ext_t1).trans K170 (allS (Or.inr (Nat.le_of_eq eq_t1.symm)) all0)
  have T_171 := own_Strk T_161 KF170
  have T_172 := own_Strk T_162 KF170
  have T_173 := own_Strk T_163 KF170
  have T_174 := own_Strk Ts159 KF170
  have Z176 : n0 ≤ T170.heap.size := Nat.le_trans Z168 (K170.1)
  have O_177 := O_167.keep K170 (allS g_t1 all0)
  obtain ⟨cq178, kq178, q178a, q178b, q178c⟩ := isOf hZ170 rfl E170
  obtain ⟨_, _, ⟨T178, L178, k178, n178⟩, -, X178, ⟨Lc178, hQ178, l178, y178, z178⟩, st178⟩ := X170'.virtualBack hx (y := (⟨"com/example/cranfield/cranfield/model/Topic", "equals", "(Ljava/lang/Object;)Z"⟩ : MethodName)) (z := (⟨"com/example/cranfield/cranfield/model/Topic", "equals", "(Ljava/lang/Object;)Z"⟩ : MethodName)) hown170 (mvT hZ170 (hw _ (List.mem_of_getElem? (i := 44) rfl))) (mvT hZ170 (hw _ (List.mem_of_getElem? (i := 45) rfl))) (notFace_of_selects (args := #[]) (mvT hZ170 (hw _ (List.mem_of_getElem? (i := 47) rfl)))) (mvT hZ170 (hw _ (List.mem_of_getElem? (i := 47) rfl))) (mvT hZ170 (hw _ (List.mem_of_getElem? (i := 46) rfl))) (by decide) (backOf (W := 0) (rmE2 l Z a0 hw [] t1 t1 x0 x2 x0 x2 (own_cs l1 n0_ n1_) (own_cs l3 q0_ q1_) (own_cs l1 n0_ n1_) (own_cs l3 q0_ q1_) zc T170.heap n0 Z176 E170 F0170 F1170 F0170 F1170 T_171 T_173 T_171 T_173 (S_c.ext O_177.2) hzc) hZ170 (hw _ (List.mem_of_getElem? (i := 48) rfl)) (hw _ (List.mem_of_getElem? (i := 28) rfl)) (by decide) (by decide)) q178a q178c (g := (mkF m 296 #[.val (.int p1), .val (.int p2), .val (.int p3), .val (.int p4), .val (.int p5), .val (.int l1), .val (.int l2), .val (.int l3), .val (.int l4), .val (.int s1), .val (.int s2), .val (.int kd), .val (.int n0_), .val (.int n1_), .val (.int m0_), .val (.int m1_), .val (.int q0_), .val (.int q1_), .val (.int r0_), .val (.int r1_), .val (.ref x0), .val (.ref x1), .val (.ref x2), .val (.ref x3), .val (.ref t1), .unset, .unset, .unset, .unset, .unset] [(.ref t1), (.ref t1)])) rfl (by rw [hml]; rfl) (Steps.refl _) (argsL := [(.ref t1)]) (rest := []) (lenOf pd_3 rfl) rfl (by show 2 * 0 + _ ≤ _; exact Nat.le_of_eq rfl) (hb hby at_296) (fun _ _ => ⟨rfl, rfl, (by decide : 29 + 0 ≤ _), (by decide : 102 + 0 ≤ _)⟩)
  dsimp only [Pt.U, Pt.locs, Pt.cells, Pt.slots] at X178 l178 y178 z178 st178 hQ178
  subst l178 y178 z178
  obtain ⟨rfl, N178q, e178⟩ := hQ178
  have N178 := Fr.app N170 N178q
  have pre179 : ∀ t_, Steps p.tables e below (T178.setTop (mkF m 301 #[.val (.int p1), .val (.int p2), .val (.int p3), .val (.int p4), .val (.int p5), .val (.int l1), .val (.int l2), .val (.int l3), .val (.int l4), .val (.int s1), .val (.int s2), .val (.int kd), .val (.int n0_), .val (.int n1_), .val (.int m0_), .val (.int m1_), .val (.int q0_), .val (.int q1_), .val (.int r0_), .val (.int r1_), .val (.ref x0), .val (.ref x1), .val (.ref x2), .val (.ref x3), .val (.ref t1), .val (.int (own_teq (own_cs l1 n0_ n1_) (own_cs l3 q0_ q1_) (own_cs l1 n0_ n1_) (own_cs l3 q0_ q1_))), .unset, .unset, .unset, .unset] [])) t_ → Steps p.tables e below (s₁.setTop (entryFrame m #[(.int p1), (.int p2), (.int p3), (.int p4), (.int p5)] maxLocals)) t_ := fun t_ k_ => pre143 _ (by
    show Steps p.tables e below (s₁.setTop (mkF m 235 #[.val (.int p1), .val (.int p2), .val (.int p3), .val (.int p4), .val (.int p5), .val (.int l1), .val (.int l2), .val (.int l3), .val (.int l4), .val (.int s1), .val (.int s2), .val (.int kd), .val (.int n0_), .val (.int n1_), .val (.int m0_), .val (.int m1_), .val (.int q0_), .val (.int q1_), .val (.int r0_), .val (.int r1_), .unset, .unset, .unset, .unset, .unset, .unset, .unset, .unset, .unset, .unset] [])) _
    refine XS.iload X0.here hx rfl (hb hby at_235) rfl ?_
    show Steps p.tables e below (s₁.setTop (mkF m 237 #[.val (.int p1), .val (.int p2), .val (.int p3), .val (.int p4), .val (.int p5), .val (.int l1), .val (.int l2), .val (.int l3), .val (.int l4), .val (.int s1), .val (.int s2), .val (.int kd), .val (.int n0_), .val (.int n1_), .val (.int m0_), .val (.int m1_), .val (.int q0_), .val (.int q1_), .val (.int r0_), .val (.int r1_), .unset, .unset, .unset, .unset, .unset, .unset, .unset, .unset, .unset, .unset] [(.int l1)])) _
    refine XS.iload X0.here hx rfl (hb hby at_237) rfl ?_
    show Steps p.tables e below (s₁.setTop (mkF m 239 #[.val (.int p1), .val (.int p2), .val (.int p3), .val (.int p4), .val (.int p5), .val (.int l1), .val (.int l2), .val (.int l3), .val (.int l4), .val (.int s1), .val (.int s2), .val (.int kd), .val (.int n0_), .val (.int n1_), .val (.int m0_), .val (.int m1_), .val (.int q0_), .val (.int q1_), .val (.int r0_), .val (.int r1_), .unset, .unset, .unset, .unset, .unset, .unset, .unset, .unset, .unset, .unset] [(.int n0_), (.int l1)])) _
    refine XS.iload X0.here hx rfl (hb hby at_239) rfl ?_
    show Steps p.tables e below (s₁.setTop (mkF m 241 #[.val (.int p1), .val (.int p2), .val (.int p3), .val (.int p4), .val (.int p5), .val (.int l1), .val (.int l2), .val (.int l3), .val (.int l4), .val (.int s1), .val (.int s2), .val (.int kd), .val (.int n0_), .val (.int n1_), .val (.int m0_), .val (.int m1_), .val (.int q0_), .val (.int q1_), .val (.int r0_), .val (.int r1_), .unset, .unset, .unset, .unset, .unset, .unset, .unset, .unset, .unset, .unset] [(.int n1_), (.int n0_), (.int l1)])) _
    refine st144.trans ?_
    show Steps p.tables e below (T144.setTop (mkF m 244 #[.val (.int p1), .val (.int p2), .val (.int p3), .val (.int p4), .val (.int p5), .val (.int l1), .val (.int l2), .val (.int l3), .val (.int l4), .val (.int s1), .val (.int s2), .val (.int kd), .val (.int n0_), .val (.int n1_), .val (.int m0_), .val (.int m1_), .val (.int q0_), .val (.int q1_), .val (.int r0_), .val (.int r1_), .unset, .unset, .unset, .unset, .unset, .unset, .unset, .unset, .unset, .unset] [(.ref x0)])) _
    refine XS.astore X144'.here hx rfl (hb hby at_244) rfl rfl (l' := #[.val (.int p1), .val (.int p2), .val (.int p3), .val (.int p4), .val (.int p5), .val (.int l1), .val (.int l2), .val (.int l3), .val (.int l4), .val (.int s1), .val (.int s2), .val (.int kd), .val (.int n0_), .val (.int n1_), .val (.int m0_), .val (.int m1_), .val (.int q0_), .val (.int q1_), .val (.int r0_), .val (.int r1_), .val (.ref x0), .unset, .unset, .unset, .unset, .unset, .unset, .unset, .unset, .unset]) rfl ?_
    show Steps p.tables e below (T144.setTop (mkF m 246 #[.val (.int p1), .val (.int p2), .val (.int p3), .val (.int p4), .val (.int p5), .val (.int l1), .val (.int l2), .val (.int l3), .val (.int l4), .val (.int s1), .val (.int s2), .val (.int kd), .val (.int n0_), .val (.int n1_), .val (.int m0_), .val (.int m1_), .val (.int q0_), .val (.int q1_), .val (.int r0_), .val (.int r1_), .val (.ref x0), .unset, .unset, .unset, .unset, .unset, .unset, .unset, .unset, .unset] [])) _
    refine XS.iload X144'.here hx rfl (hb hby at_246) rfl ?_
    show Steps p.tables e below (T144.setTop (mkF m 248 #[.val (.int p1), .val (.int p2), .val (.int p3), .val (.int p4), .val (.int p5), .val (.int l1), .val (.int l2), .val (.int l3), .val (.int l4), .val (.int s1), .val (.int s2), .val (.int kd), .val (.int n0_), .val (.int n1_), .val (.int m0_), .val (.int m1_), .val (.int q0_), .val (.int q1_), .val (.int r0_), .val (.int r1_), .val (.ref x0), .unset, .unset, .unset, .unset, .unset, .unset, .unset, .unset, .unset] [(.int l2)])) _
    refine XS.iload X144'.here hx rfl (hb hby at_248) rfl ?_
    show Steps p.tables e below (T144.setTop (mkF m 250 #[.val (.int p1), .val (.int p2), .val (.int p3), .val (.int p4), .val (.int p5), .val (.int l1), .val (.int l2), .val (.int l3), .val (.int l4), .val (.int s1), .val (.int s2), .val (.int kd), .val (.int n0_), .val (.int n1_), .val (.int m0_), .val (.int m1_), .val (.int q0_), .val (.int q1_), .val (.int r0_), .val (.int r1_), .val (.ref x0), .unset, .unset, .unset, .unset, .unset, .unset, .unset, .unset, .unset] [(.int m0_), (.int l2)])) _
    refine XS.iload X144'.here hx rfl (hb hby at_250) rfl ?_
    show Steps p.tables e below (T144.setTop (mkF m 252 #[.val (.int p1), .val (.int p2), .val (.int p3), .val (.int p4), .val (.int p5), .val (.int l1), .val (.int l2), .val (.int l3), .val (.int l4), .val (.int s1), .val (.int s2), .val (.int kd), .val (.int n0_), .val (.int n1_), .val (.int m0_), .val (.int m1_), .val (.int q0_), .val (.int q1_), .val (.int r0_), .val (.int r1_), .val (.ref x0), .unset, .unset, .unset, .unset, .unset, .unset, .unset, .unset, .unset] [(.int m1_), (.int m0_), (.int l2)])) _
    refine st148.trans ?_
    show Steps p.tables e below (T148.setTop (mkF m 255 #[.val (.int p1), .val (.int p2), .val (.int p3), .val (.int p4), .val (.int p5), .val (.int l1), .val (.int l2), .val (.int l3), .val (.int l4), .val (.int s1), .val (.int s2), .val (.int kd), .val (.int n0_), .val (.int n1_), .val (.int m0_), .val (.int m1_), .val (.int q0_), .val (.int q1_), .val (.int r0_), .val (.int r1_), .val (.ref x0), .unset, .unset, .unset, .unset, .unset, .unset, .unset, .unset, .unset] [(.ref x1)])) _
    refine XS.astore X148'.here hx rfl (hb hby at_255) rfl rfl (l' := #[.val (.int p1), .val (.int p2), .val (.int p3), .val (.int p4), .val (.int p5), .val (.int l1), .val (.int l2), .val (.int l3), .val (.int l4), .val (.int s1), .val (.int s2), .val (.int kd), .val (.int n0_), .val (.int n1_), .val (.int m0_), .val (.int m1_), .val (.int q0_), .val (.int q1_), .val (.int r0_), .val (.int r1_), .val (.ref x0), .val (.ref x1), .unset, .unset, .unset, .unset, .unset, .unset, .unset, .unset]) rfl ?_
    show Steps p.tables e below (T148.setTop (mkF m 257 #[.val (.int p1), .val (.int p2), .val (.int p3), .val (.int p4), .val (.int p5), .val (.int l1), .val (.int l2), .val (.int l3), .val (.int l4), .val (.int s1), .val (.int s2), .val (.int kd), .val (.int n0_), .val (.int n1_), .val (.int m0_), .val (.int m1_), .val (.int q0_), .val (.int q1_), .val (.int r0_), .val (.int r1_), .val (.ref x0), .val (.ref x1), .unset, .unset, .unset, .unset, .unset, .unset, .unset, .unset] [])) _
    refine XS.iload X148'.here hx rfl (hb hby at_257) rfl ?_
    show Steps p.tables e below (T148.setTop (mkF m 259 #[.val (.int p1), .val (.int p2), .val (.int p3), .val (.int p4), .val (.int p5), .val (.int l1), .val (.int l2), .val (.int l3), .val (.int l4), .val (.int s1), .val (.int s2), .val (.int kd), .val (.int n0_), .val (.int n1_), .val (.int m0_), .val (.int m1_), .val (.int q0_), .val (.int q1_), .val (.int r0_), .val (.int r1_), .val (.ref x0), .val (.ref x1), .unset, .unset, .unset, .unset, .unset, .unset, .unset, .unset] [(.int l3)])) _
    refine XS.iload X148'.here hx rfl (hb hby at_259) rfl ?_
    show Steps p.tables e below (T148.setTop (mkF m 261 #[.val (.int p1), .val (.int p2), .val (.int p3), .val (.int p4), .val (.int p5), .val (.int l1), .val (.int l2), .val (.int l3), .val (.int l4), .val (.int s1), .val (.int s2), .val (.int kd), .val (.int n0_), .val (.int n1_), .val (.int m0_), .val (.int m1_), .val (.int q0_), .val (.int q1_), .val (.int r0_), .val (.int r1_), .val (.ref x0), .val (.ref x1), .unset, .unset, .unset, .unset, .unset, .unset, .unset, .unset] [(.int q0_), (.int l3)])) _
    refine XS.iload X148'.here hx rfl (hb hby at_261) rfl ?_
    show Steps p.tables e below (T148.setTop (mkF m 263 #[.val (.int p1), .val (.int p2), .val (.int p3), .val (.int p4), .val (.int p5), .val (.int l1), .val (.int l2), .val (.int l3), .val (.int l4), .val (.int s1), .val (.int s2), .val (.int kd), .val (.int n0_), .val (.int n1_), .val (.int m0_), .val (.int m1_), .val (.int q0_), .val (.int q1_), .val (.int r0_), .val (.int r1_), .val (.ref x0), .val (.ref x1), .unset, .unset, .unset, .unset, .unset, .unset, .unset, .unset] [(.int q1_), (.int q0_), (.int l3)])) _
    refine st153.trans ?_
    show Steps p.tables e below (T153.setTop (mkF m 266 #[.val (.int p1), .val (.int p2), .val (.int p3), .val (.int p4), .val (.int p5), .val (.int l1), .val (.int l2), .val (.int l3), .val (.int l4), .val (.int s1), .val (.int s2), .val (.int kd), .val (.int n0_), .val (.int n1_), .val (.int m0_), .val (.int m1_), .val (.int q0_), .val (.int q1_), .val (.int r0_), .val (.int r1_), .val (.ref x0), .val (.ref x1), .unset, .unset, .unset, .unset, .unset, .unset, .unset, .unset] [(.ref x2)])) _
    refine XS.astore X153'.here hx rfl (hb hby at_266) rfl rfl (l' := #[.val (.int p1), .val (.int p2), .val (.int p3), .val (.int p4), .val (.int p5), .val (.int l1), .val (.int l2), .val (.int l3), .val (.int l4), .val (.int s1), .val (.int s2), .val (.int kd), .val (.int n0_), .val (.int n1_), .val (.int m0_), .val (.int m1_), .val (.int q0_), .val (.int q1_), .val (.int r0_), .val (.int r1_), .val (.ref x0), .val (.ref x1), .val (.ref x2), .unset, .unset, .unset, .unset, .unset, .unset, .unset]) rfl ?_
    show Steps p.tables e below (T153.setTop (mkF m 268 #[.val (.int p1), .val (.int p2), .val (.int p3), .val (.int p4), .val (.int p5), .val (.int l1), .val (.int l2), .val (.int l3), .val (.int l4), .val (.int s1), .val (.int s2), .val (.int kd), .val (.int n0_), .val (.int n1_), .val (.int m0_), .val (.int m1_), .val (.int q0_), .val (.int q1_), .val (.int r0_), .val (.int r1_), .val (.ref x0), .val (.ref x1), .val (.ref x2), .unset, .unset, .unset, .unset, .unset, .unset, .unset] [])) _
    refine XS.iload X153'.here hx rfl (hb hby at_268) rfl ?_
    show Steps p.tables e below (T153.setTop (mkF m 270 #[.val (.int p1), .val (.int p2), .val (.int p3), .val (.int p4), .val (.int p5), .val (.int l1), .val (.int l2), .val (.int l3), .val (.int l4), .val (.int s1), .val (.int s2), .val (.int kd), .val (.int n0_), .val (.int n1_), .val (.int m0_), .val (.int m1_), .val (.int q0_), .val (.int q1_), .val (.int r0_), .val (.int r1_), .val (.ref x0), .val (.ref x1), .val (.ref x2), .unset, .unset, .unset, .unset, .unset, .unset, .unset] [(.int l4)])) _
    refine XS.iload X153'.here hx rfl (hb hby at_270) rfl ?_
    show Steps p.tables e below (T153.setTop (mkF m 272 #[.val (.int p1), .val (.int p2), .val (.int p3), .val (.int p4), .val (.int p5), .val (.int l1), .val (.int l2), .val (.int l3), .val (.int l4), .val (.int s1), .val (.int s2), .val (.int kd), .val (.int n0_), .val (.int n1_), .val (.int m0_), .val (.int m1_), .val (.int q0_), .val (.int q1_), .val (.int r0_), .val (.int r1_), .val (.ref x0), .val (.ref x1), .val (.ref x2), .unset, .unset, .unset, .unset, .unset, .unset, .unset] [(.int r0_), (.int l4)])) _
    refine XS.iload X153'.here hx rfl (hb hby at_272) rfl ?_
    show Steps p.tables e below (T153.setTop (mkF m 274 #[.val (.int p1), .val (.int p2), .val (.int p3), .val (.int p4), .val (.int p5), .val (.int l1), .val (.int l2), .val (.int l3), .val (.int l4), .val (.int s1), .val (.int s2), .val (.int kd), .val (.int n0_), .val (.int n1_), .val (.int m0_), .val (.int m1_), .val (.int q0_), .val (.int q1_), .val (.int r0_), .val (.int r1_), .val (.ref x0), .val (.ref x1), .val (.ref x2), .unset, .unset, .unset, .unset, .unset, .unset, .unset] [(.int r1_), (.int r0_), (.int l4)])) _
    refine st159.trans ?_
    show Steps p.tables e below (T159.setTop (mkF m 277 #[.val (.int p1), .val (.int p2), .val (.int p3), .val (.int p4), .val (.int p5), .val (.int l1), .val (.int l2), .val (.int l3), .val (.int l4), .val (.int s1), .val (.int s2), .val (.int kd), .val (.int n0_), .val (.int n1_), .val (.int m0_), .val (.int m1_), .val (.int q0_), .val (.int q1_), .val (.int r0_), .val (.int r1_), .val (.ref x0), .val (.ref x1), .val (.ref x2), .unset, .unset, .unset, .unset, .unset, .unset, .unset] [(.ref x3)])) _
    refine XS.astore X159'.here hx rfl (hb hby at_277) rfl rfl (l' := #[.val (.int p1), .val (.int p2), .val (.int p3), .val (.int p4), .val (.int p5), .val (.int l1), .val (.int l2), .val (.int l3), .val (.int l4), .val (.int s1), .val (.int s2), .val (.int kd), .val (.int n0_), .val (.int n1_), .val (.int m0_), .val (.int m1_), .val (.int q0_), .val (.int q1_), .val (.int r0_), .val (.int r1_), .val (.ref x0), .val (.ref x1), .val (.ref x2), .val (.ref x3), .unset, .unset, .unset, .unset, .unset, .unset]) rfl ?_
    show Steps p.tables e below (T159.setTop (mkF m 279 #[.val (.int p1), .val (.int p2), .val (.int p3), .val (.int p4), .val (.int p5), .val (.int l1), .val (.int l2), .val (.int l3), .val (.int l4), .val (.int s1), .val (.int s2), .val (.int kd), .val (.int n0_), .val (.int n1_), .val (.int m0_), .val (.int m1_), .val (.int q0_), .val (.int q1_), .val (.int r0_), .val (.int r1_), .val (.ref x0), .val (.ref x1), .val (.ref x2), .val (.ref x3), .unset, .unset, .unset, .unset, .unset, .unset] [])) _
    refine st166 _ ?_
    show Steps p.tables e below (T166.setTop (mkF m 282 #[.val (.int p1), .val (.int p2), .val (.int p3), .val (.int p4), .val (.int p5), .val (.int l1), .val (.int l2), .val (.int l3), .val (.int l4), .val (.int s1), .val (.int s2), .val (.int kd), .val (.int n0_), .val (.int n1_), .val (.int m0_), .val (.int m1_), .val (.int q0_), .val (.int q1_), .val (.int r0_), .val (.int r1_), .val (.ref x0), .val (.ref x1), .val (.ref x2), .val (.ref x3), .unset, .unset, .unset, .unset, .unset, .unset] [(.ref t1)])) _
    refine XS.dup X166.here hx rfl (hb hby at_282) rfl rfl ?_
    show Steps p.tables e below (T166.setTop (mkF m 283 #[.val (.int p1), .val (.int p2), .val (.int p3), .val (.int p4), .val (.int p5), .val (.int l1), .val (.int l2), .val (.int l3), .val (.int l4), .val (.int s1), .val (.int s2), .val (.int kd), .val (.int n0_), .val (.int n1_), .val (.int m0_), .val (.int m1_), .val (.int q0_), .val (.int q1_), .val (.int r0_), .val (.int r1_), .val (.ref x0), .val (.ref x1), .val (.ref x2), .val (.ref x3), .unset, .unset, .unset, .unset, .unset, .unset] [(.ref t1), (.ref t1)])) _
    refine XS.aload X166.here hx rfl (hb hby at_283) rfl rfl ?_
    show Steps p.tables e below (T166.setTop (mkF m 285 #[.val (.int p1), .val (.int p2), .val (.int p3), .val (.int p4), .val (.int p5), .val (.int l1), .val (.int l2), .val (.int l3), .val (.int l4), .val (.int s1), .val (.int s2), .val (.int kd), .val (.int n0_), .val (.int n1_), .val (.int m0_), .val (.int m1_), .val (.int q0_), .val (.int q1_), .val (.int r0_), .val (.int r1_), .val (.ref x0), .val (.ref x1), .val (.ref x2), .val (.ref x3), .unset, .unset, .unset, .unset, .unset, .unset] [(.ref x0), (.ref t1), (.ref t1)])) _
    refine XS.aload X166.here hx rfl (hb hby at_285) rfl rfl ?_
    show Steps p.tables e below (T166.setTop (mkF m 287 #[.val (.int p1), .val (.int p2), .val (.int p3), .val (.int p4), .val (.int p5), .val (.int l1), .val (.int l2), .val (.int l3), .val (.int l4), .val (.int s1), .val (.int s2), .val (.int kd), .val (.int n0_), .val (.int n1_), .val (.int m0_), .val (.int m1_), .val (.int q0_), .val (.int q1_), .val (.int r0_), .val (.int r1_), .val (.ref x0), .val (.ref x1), .val (.ref x2), .val (.ref x3), .unset, .unset, .unset, .unset, .unset, .unset] [(.ref x2), (.ref x0), (.ref t1), (.ref t1)])) _
    refine st170.trans ?_
    show Steps p.tables e below (T170.setTop (mkF m 290 #[.val (.int p1), .val (.int p2), .val (.int p3), .val (.int p4), .val (.int p5), .val (.int l1), .val (.int l2), .val (.int l3), .val (.int l4), .val (.int s1), .val (.int s2), .val (.int kd), .val (.int n0_), .val (.int n1_), .val (.int m0_), .val (.int m1_), .val (.int q0_), .val (.int q1_), .val (.int r0_), .val (.int r1_), .val (.ref x0), .val (.ref x1), .val (.ref x2), .val (.ref x3), .unset, .unset, .unset, .unset, .unset, .unset] [(.ref t1)])) _
    refine XS.astore X170'.here hx rfl (hb hby at_290) rfl rfl (l' := #[.val (.int p1), .val (.int p2), .val (.int p3), .val (.int p4), .val (.int p5), .val (.int l1), .val (.int l2), .val (.int l3), .val (.int l4), .val (.int s1), .val (.int s2), .val (.int kd), .val (.int n0_), .val (.int n1_), .val (.int m0_), .val (.int m1_), .val (.int q0_), .val (.int q1_), .val (.int r0_), .val (.int r1_), .val (.ref x0), .val (.ref x1), .val (.ref x2), .val (.ref x3), .val (.ref t1), .unset, .unset, .unset, .unset, .unset]) rfl ?_
    show Steps p.tables e below (T170.setTop (mkF m 292 #[.val (.int p1), .val (.int p2), .val (.int p3), .val (.int p4), .val (.int p5), .val (.int l1), .val (.int l2), .val (.int l3), .val (.int l4), .val (.int s1), .val (.int s2), .val (.int kd), .val (.int n0_), .val (.int n1_), .val (.int m0_), .val (.int m1_), .val (.int q0_), .val (.int q1_), .val (.int r0_), .val (.int r1_), .val (.ref x0), .val (.ref x1), .val (.ref x2), .val (.ref x3), .val (.ref t1), .unset, .unset, .unset, .unset, .unset] [])) _
    refine XS.aload X170'.here hx rfl (hb hby at_292) rfl rfl ?_
    show Steps p.tables e below (T170.setTop (mkF m 294 #[.val (.int p1), .val (.int p2), .val (.int p3), .val (.int p4), .val (.int p5), .val (.int l1), .val (.int l2), .val (.int l3), .val (.int l4), .val (.int s1), .val (.int s2), .val (.int kd), .val (.int n0_), .val (.int n1_), .val (.int m0_), .val (.int m1_), .val (.int q0_), .val (.int q1_), .val (.int r0_), .val (.int r1_), .val (.ref x0), .val (.ref x1), .val (.ref x2), .val (.ref x3), .val (.ref t1), .unset, .unset, .unset, .unset, .unset] [(.ref t1)])) _
    refine XS.aload X170'.here hx rfl (hb hby at_294) rfl rfl ?_
    show Steps p.tables e below (T170.setTop (mkF m 296 #[.val (.int p1), .val (.int p2), .val (.int p3), .val (.int p4), .val (.int p5), .val (.int l1), .val (.int l2), .val (.int l3), .val (.int l4), .val (.int s1), .val (.int s2), .val (.int kd), .val (.int n0_), .val (.int n1_), .val (.int m0_), .val (.int m1_), .val (.int q0_), .val (.int q1_), .val (.int r0_), .val (.int r1_), .val (.ref x0), .val (.ref x1), .val (.ref x2), .val (.ref x3), .val (.ref t1), .unset, .unset, .unset, .unset, .unset] [(.ref t1), (.ref t1)])) _
    refine st178.trans ?_
    show Steps p.tables e below (T178.setTop (mkF m 299 #[.val (.int p1), .val (.int p2), .val (.int p3), .val (.int p4), .val (.int p5), .val (.int l1), .val (.int l2), .val (.int l3), .val (.int l4), .val (.int s1), .val (.int s2), .val (.int kd), .val (.int n0_), .val (.int n1_), .val (.int m0_), .val (.int m1_), .val (.int q0_), .val (.int q1_), .val (.int r0_), .val (.int r1_), .val (.ref x0), .val (.ref x1), .val (.ref x2), .val (.ref x3), .val (.ref t1), .unset, .unset, .unset, .unset, .unset] [(.int (own_teq (own_cs l1 n0_ n1_) (own_cs l3 q0_ q1_) (own_cs l1 n0_ n1_) (own_cs l3 q0_ q1_)))])) _
    refine XS.istore X178.here hx rfl (hb hby at_299) rfl (l' := #[.val (.int p1), .val (.int p2), .val (.int p3), .val (.int p4), .val (.int p5), .val (.int l1), .val (.int l2), .val (.int l3), .val (.int l4), .val (.int s1), .val (.int s2), .val (.int kd), .val (.int n0_), .val (.int n1_), .val (.int m0_), .val (.int m1_), .val (.int q0_), .val (.int q1_), .val (.int r0_), .val (.int r1_), .val (.ref x0), .val (.ref x1), .val (.ref x2), .val (.ref x3), .val (.ref t1), .val (.int (own_teq (own_cs l1 n0_ n1_) (own_cs l3 q0_ q1_) (own_cs l1 n0_ n1_) (own_cs l3 q0_ q1_))), .unset, .unset, .unset, .unset]) rfl ?_
    exact k_)
  have pre180 : ∀ t_, Steps p.tables e below (T178.setTop (mkF m 304 #[.val (.int p1), .val (.int p2), .val (.int p3), .val (.int p4), .val (.int p5), .val (.int l1), .val (.int l2), .val (.int l3), .val (.int l4), .val (.int s1), .val (.int s2), .val (.int kd), .val (.int n0_), .val (.int n1_), .val (.int m0_), .val (.int m1_), .val (.int q0_), .val (.int q1_), .val (.int r0_), .val (.int r1_), .val (.ref x0), .val (.ref x1), .val (.ref x2), .val (.ref x3), .val (.ref t1), .val (.int (own_teq (own_cs l1 n0_ n1_) (own_cs l3 q0_ q1_) (own_cs l1 n0_ n1_) (own_cs l3 q0_ q1_))), .unset, .unset, .unset, .unset] [(.int (2 : Int32)), (.int kd)])) t_ → Steps p.tables e below (s₁.setTop (entryFrame m #[(.int p1), (.int p2), (.int p3), (.int p4), (.int p5)] maxLocals)) t_ := fun t_ k_ => pre179 _ (by
    show Steps p.tables e below (T178.setTop (mkF m 301 #[.val (.int p1), .val (.int p2), .val (.int p3), .val (.int p4), .val (.int p5), .val (.int l1), .val (.int l2), .val (.int l3), .val (.int l4), .val (.int s1), .val (.int s2), .val (.int kd), .val (.int n0_), .val (.int n1_), .val (.int m0_), .val (.int m1_), .val (.int q0_), .val (.int q1_), .val (.int r0_), .val (.int r1_), .val (.ref x0), .val (.ref x1), .val (.ref x2), .val (.ref x3), .val (.ref t1), .val (.int (own_teq (own_cs l1 n0_ n1_) (own_cs l3 q0_ q1_) (own_cs l1 n0_ n1_) (own_cs l3 q0_ q1_))), .unset, .unset, .unset, .unset] [])) _
    refine XS.iload X178.here hx rfl (hb hby at_301) rfl ?_
    show Steps p.tables e below (T178.setTop (mkF m 303 #[.val (.int p1), .val (.int p2), .val (.int p3), .val (.int p4), .val (.int p5), .val (.int l1), .val (.int l2), .val (.int l3), .val (.int l4), .val (.int s1), .val (.int s2), .val (.int kd), .val (.int n0_), .val (.int n1_), .val (.int m0_), .val (.int m1_), .val (.int q0_), .val (.int q1_), .val (.int r0_), .val (.int r1_), .val (.ref x0), .val (.ref x1), .val (.ref x2), .val (.ref x3), .val (.ref t1), .val (.int (own_teq (own_cs l1 n0_ n1_) (own_cs l3 q0_ q1_) (own_cs l1 n0_ n1_) (own_cs l3 q0_ q1_))), .unset, .unset, .unset, .unset] [(.int kd)])) _
    refine XS.iconst X178.here hx rfl (hb hby at_303) ?_
    exact k_)
  rcases hkd with q | q | q | q
  · skip
    obtain ⟨T181, h181, X181, e181, Ext_t2, E_t2, D_t2, -, st181⟩ := newO X178 hx hZ170 hown170 (hw _ (List.mem_of_getElem? (i := 26) rfl)) (hw _ (List.mem_of_getElem? (i := 27) rfl)) (hw _ (List.mem_of_getElem? (i := 28) rfl)) e178 (g := (mkF m 332 #[.val (.int p1), .val (.int p2), .val (.int p3), .val (.int p4), .val (.int p5), .val (.int l1), .val (.int l2), .val (.int l3), .val (.int l4), .val (.int s1), .val (.int s2), .val (.int kd), .val (.int n0_), .val (.int n1_), .val (.int m0_), .val (.int m1_), .val (.int q0_), .val (.int q1_), .val (.int r0_), .val (.int r1_), .val (.ref x0), .val (.ref x1), .val (.ref x2), .val (.ref x3), .val (.ref t1), .val (.int (own_teq (own_cs l1 n0_ n1_) (own_cs l3 q0_ q1_) (own_cs l1 n0_ n1_) (own_cs l3 q0_ q1_))), .unset, .unset, .unset, .unset] [])) rfl (hb hby at_332) (by decide) (by decide)
    obtain ⟨t2, eq_t2⟩ : ∃ z, z = T170.heap.size := ⟨_, rfl⟩
    rw [← eq_t2] at E_t2 D_t2 st181
    have g_t2 : n0 ≤ t2 := Nat.le_trans Z176 (Nat.le_of_eq eq_t2.symm)
    have O_182 := O_177.ext Ext_t2
    have ne_t1_t2 : t1 ≠ t2 := Nat.ne_of_lt (Nat.lt_of_lt_of_le E170.lt (Nat.le_of_eq eq_t2.symm))
    have E_t1_183 := E170.ext Ext_t2
    have F0_t1_184 := F0170.ext Ext_t2
    have F1_t1_185 := F1170.ext Ext_t2
    have Z186 : n0 ≤ h181.size := Nat.le_trans Z176 (Ext_t2.1)
    have hk187 := Nat.le_trans (Nat.le_refl _) (Ext_t2.1)
    have F0_t2 : Fld Z h181 t2 "com/example/cranfield/cranfield/model/Topic" "number" "Ljava/lang/String;" .null := D_t2 (Or.inr (hw _ (List.mem_of_getElem? (i := 40) rfl))) (ty := (.object "java/lang/String")) (by decide)
    have F1_t2 : Fld Z h181 t2 "com/example/cranfield/cranfield/model/Topic" "query" "Ljava/lang/String;" .null := D_t2 (Or.inr (hw _ (List.mem_of_getElem? (i := 43) rfl))) (ty := (.object "java/lang/String")) (by decide)
    obtain ⟨_, _, ⟨T188, L188, k188, n188⟩, -, X188, hS188, hle188, ⟨Lc188, hQ188, l188, y188, z188⟩, st188⟩ := Jvm.Stand.specialBackS (s := (s.setVm T170.vm)) X181 hx (y := (⟨"com/example/cranfield/cranfield/model/Topic", "<init>", "(Ljava/lang/String;Ljava/lang/String;)V"⟩ : MethodName)) rfl hown170 (mvT hZ170 (hw _ (List.mem_of_getElem? (i := 29) rfl))) (mvT hZ170 (hw _ (List.mem_of_getElem? (i := 30) rfl))) (mvT hZ170 (hw _ (List.mem_of_getElem? (i := 31) rfl))) (by decide) (backOfS (W := 1) (rmC l Z a0 hw [] t2 x1 x3 h181 n0 Z186 E_t2 F0_t2 F1_t2 g_t2 ((own_Stre T_172).ext Ext_t2) ((own_Stre T_174).ext Ext_t2)) hZ170 (hw _ (List.mem_of_getElem? (i := 31) rfl)) (hw _ (List.mem_of_getElem? (i := 28) rfl)) (by decide) (by decide)) (g := (mkF m 340 #[.val (.int p1), .val (.int p2), .val (.int p3), .val (.int p4), .val (.int p5), .val (.int l1), .val (.int l2), .val (.int l3), .val (.int l4), .val (.int s1), .val (.int s2), .val (.int kd), .val (.int n0_), .val (.int n1_), .val (.int m0_), .val (.int m1_), .val (.int q0_), .val (.int q1_), .val (.int r0_), .val (.int r1_), .val (.ref x0), .val (.ref x1), .val (.ref x2), .val (.ref x3), .val (.ref t1), .val (.int (own_teq (own_cs l1 n0_ n1_) (own_cs l3 q0_ q1_) (own_cs l1 n0_ n1_) (own_cs l3 q0_ q1_))), .unset, .unset, .unset, .unset] [(.ref x3), (.ref x1), (.ref t2), (.ref t2)])) rfl (by rw [hml]; rfl) (Steps.refl _) (a := t2) (argsL := [(.ref x1), (.ref x3)]) (rest := [(.ref t2)]) (lenOf pd_5 rfl) rfl (by show 2 * 0 + _ ≤ _; exact Nat.le_of_eq rfl) (hb hby at_340) (fun _ _ => ⟨rfl, e181, (by decide : 30 + 4 ≤ _), (by decide : 104 + 52 ≤ _)⟩)
    dsimp only [Pt.U, Pt.locs, Pt.cells, Pt.slots] at X188 l188 y188 z188 st188 hQ188 hS188 hle188
    subst l188 y188 z188
    have hle188' : h181.size ≤ T188.heap.size := by have q := hle188; rw [e181] at q; exact q
    obtain ⟨X188', hS188', hZ188, hown188⟩ := rebS (s := s) (vm0 := T170.vm) hS170' hk187 X188 hS188 hle188' hZ170 hown170
    obtain ⟨rfl, N188q, K188, E188, F0188, F1188⟩ := hQ188
    have N188 := Fr.app N178 N188q
    have KF188 := ((Keep.refl T170.heap []).ext Ext_t2).trans K188 (allS (Or.inr (Nat.le_of_eq eq_t2.symm)) all0)
    have T_189 := own_Strk T_171 KF188
    have T_190 := own_Strk T_172 KF188
    have T_191 := own_Strk T_173 KF188
    have T_192 := own_Strk T_174 KF188
    have E_t1_194 := E_t1_183.keep K188
    have F0_t1_195 := F0_t1_184.keep K188 (ninS ne_t1_t2 nin0)
    have F1_t1_196 := F1_t1_185.keep K188 (ninS ne_t1_t2 nin0)
    have Z198 : n0 ≤ T188.heap.size := Nat.le_trans Z186 (K188.1)
    have O_199 := O_182.keep K188 (allS g_t2 all0)
    obtain ⟨_, _, ⟨T200, L200, k200, n200⟩, -, X200, ⟨Lc200, hQ200, l200, y200, z200⟩, st200⟩ := Jvm.LawKit.callS X188' hx (y := (⟨"com/example/cranfield/cranfield/model/TopicEqualsPinLaw", "same", "(ICCICC)Z"⟩ : MethodName)) hown188 (mvT hZ188 (hw _ (List.mem_of_getElem? (i := 56) rfl))) (mvT hZ188 (hw _ (List.mem_of_getElem? (i := 57) rfl))) (mvT hZ188 (hw _ (List.mem_of_getElem? (i := 2) rfl))) (mvT hZ188 (hw _ (List.mem_of_getElem? (i := 58) rfl))) (by decide) (backOf (W := 0) (rmSame l Z a0 hw [] l1 n0_ n1_ l2 m0_ m1_ T188.heap n0 Z198 h1 hj_l2) hZ188 (hw _ (List.mem_of_getElem? (i := 58) rfl)) (hw _ (List.mem_of_getElem? (i := 2) rfl)) (by decide) (by decide)) (g := (mkF m 357 #[.val (.int p1), .val (.int p2), .val (.int p3), .val (.int p4), .val (.int p5), .val (.int l1), .val (.int l2), .val (.int l3), .val (.int l4), .val (.int s1), .val (.int s2), .val (.int kd), .val (.int n0_), .val (.int n1_), .val (.int m0_), .val (.int m1_), .val (.int q0_), .val (.int q1_), .val (.int r0_), .val (.int r1_), .val (.ref x0), .val (.ref x1), .val (.ref x2), .val (.ref x3), .val (.ref t1), .val (.int (own_teq (own_cs l1 n0_ n1_) (own_cs l3 q0_ q1_) (own_cs l1 n0_ n1_) (own_cs l3 q0_ q1_))), .val (.ref t2), .unset, .unset, .unset] [(.int m1_), (.int m0_), (.int l2), (.int n1_), (.int n0_), (.int l1)])) rfl (by rw [hml]; rfl) (argsL := [(.int l1), (.int n0_), (.int n1_), (.int l2), (.int m0_), (.int m1_)]) (rest := []) (lenOf pd_6 rfl) rfl (by show 2 * 0 + _ ≤ _; exact Nat.le_of_eq rfl) (hb hby at_357) (fun _ _ => ⟨rfl, rfl, (by decide : 34 + 0 ≤ _), (by decide : 156 + 0 ≤ _)⟩)
    dsimp only [Pt.U, Pt.locs, Pt.cells, Pt.slots] at X200 l200 y200 z200 st200 hQ200
    subst l200 y200 z200
    obtain ⟨rfl, N200q, e200⟩ := hQ200
    have N200 := Fr.app N188 N200q
    have pre201 : ∀ t_, Steps p.tables e below (T200.setTop (mkF m 360 #[.val (.int p1), .val (.int p2), .val (.int p3), .val (.int p4), .val (.int p5), .val (.int l1), .val (.int l2), .val (.int l3), .val (.int l4), .val (.int s1), .val (.int s2), .val (.int kd), .val (.int n0_), .val (.int n1_), .val (.int m0_), .val (.int m1_), .val (.int q0_), .val (.int q1_), .val (.int r0_), .val (.int r1_), .val (.ref x0), .val (.ref x1), .val (.ref x2), .val (.ref x3), .val (.ref t1), .val (.int (own_teq (own_cs l1 n0_ n1_) (own_cs l3 q0_ q1_) (own_cs l1 n0_ n1_) (own_cs l3 q0_ q1_))), .val (.ref t2), .unset, .unset, .unset] [(.int (if own_cs l1 n0_ n1_ = own_cs l2 m0_ m1_ then (1 : Int32) else 0))])) t_ → Steps p.tables e below (s₁.setTop (entryFrame m #[(.int p1), (.int p2), (.int p3), (.int p4), (.int p5)] maxLocals)) t_ := fun t_ k_ => pre180 _ (by
      show Steps p.tables e below (T178.setTop (mkF m 304 #[.val (.int p1), .val (.int p2), .val (.int p3), .val (.int p4), .val (.int p5), .val (.int l1), .val (.int l2), .val (.int l3), .val (.int l4), .val (.int s1), .val (.int s2), .val (.int kd), .val (.int n0_), .val (.int n1_), .val (.int m0_), .val (.int m1_), .val (.int q0_), .val (.int q1_), .val (.int r0_), .val (.int r1_), .val (.ref x0), .val (.ref x1), .val (.ref x2), .val (.ref x3), .val (.ref t1), .val (.int (own_teq (own_cs l1 n0_ n1_) (own_cs l3 q0_ q1_) (own_cs l1 n0_ n1_) (own_cs l3 q0_ q1_))), .unset, .unset, .unset, .unset] [(.int (2 : Int32)), (.int kd)])) _
      refine XS.icmpYes X178.here hx rfl (pc0 := 304) (pc' := 316) rfl (hb hby at_304) rfl (feq (by rw [q]; decide)).2 (by decide) (by decide) ?_
      show Steps p.tables e below (T178.setTop (mkF m 316 #[.val (.int p1), .val (.int p2), .val (.int p3), .val (.int p4), .val (.int p5), .val (.int l1), .val (.int l2), .val (.int l3), .val (.int l4), .val (.int s1), .val (.int s2), .val (.int kd), .val (.int n0_), .val (.int n1_), .val (.int m0_), .val (.int m1_), .val (.int q0_), .val (.int q1_), .val (.int r0_), .val (.int r1_), .val (.ref x0), .val (.ref x1), .val (.ref x2), .val (.ref x3), .val (.ref t1), .val (.int (own_teq (own_cs l1 n0_ n1_) (own_cs l3 q0_ q1_) (own_cs l1 n0_ n1_) (own_cs l3 q0_ q1_))), .unset, .unset, .unset, .unset] [])) _
      refine XS.iload X178.here hx rfl (hb hby at_316) rfl ?_
      show Steps p.tables e below (T178.setTop (mkF m 318 #[.val (.int p1), .val (.int p2), .val (.int p3), .val (.int p4), .val (.int p5), .val (.int l1), .val (.int l2), .val (.int l3), .val (.int l4), .val (.int s1), .val (.int s2), .val (.int kd), .val (.int n0_), .val (.int n1_), .val (.int m0_), .val (.int m1_), .val (.int q0_), .val (.int q1_), .val (.int r0_), .val (.int r1_), .val (.ref x0), .val (.ref x1), .val (.ref x2), .val (.ref x3), .val (.ref t1), .val (.int (own_teq (own_cs l1 n0_ n1_) (own_cs l3 q0_ q1_) (own_cs l1 n0_ n1_) (own_cs l3 q0_ q1_))), .unset, .unset, .unset, .unset] [(.int kd)])) _
      refine XS.iconst X178.here hx rfl (hb hby at_318) ?_
      show Steps p.tables e below (T178.setTop (mkF m 319 #[.val (.int p1), .val (.int p2), .val (.int p3), .val (.int p4), .val (.int p5), .val (.int l1), .val (.int l2), .val (.int l3), .val (.int l4), .val (.int s1), .val (.int s2), .val (.int kd), .val (.int n0_), .val (.int n1_), .val (.int m0_), .val (.int m1_), .val (.int q0_), .val (.int q1_), .val (.int r0_), .val (.int r1_), .val (.ref x0), .val (.ref x1), .val (.ref x2), .val (.ref x3), .val (.ref t1), .val (.int (own_teq (own_cs l1 n0_ n1_) (own_cs l3 q0_ q1_) (own_cs l1 n0_ n1_) (own_cs l3 q0_ q1_))), .unset, .unset, .unset, .unset] [(.int (3 : Int32)), (.int kd)])) _
      refine XS.icmpYes X178.here hx rfl (pc0 := 319) (pc' := 332) rfl (hb hby at_319) rfl (feq (by rw [q]; decide)).2 (by decide) (by decide) ?_
      show Steps p.tables e below (T178.setTop (mkF m 332 #[.val (.int p1), .val (.int p2), .val (.int p3), .val (.int p4), .val (.int p5), .val (.int l1), .val (.int l2), .val (.int l3), .val (.int l4), .val (.int s1), .val (.int s2), .val (.int kd), .val (.int n0_), .val (.int n1_), .val (.int m0_), .val (.int m1_), .val (.int q0_), .val (.int q1_), .val (.int r0_), .val (.int r1_), .val (.ref x0), .val (.ref x1), .val (.ref x2), .val (.ref x3), .val (.ref t1), .val (.int (own_teq (own_cs l1 n0_ n1_) (own_cs l3 q0_ q1_) (own_cs l1 n0_ n1_) (own_cs l3 q0_ q1_))), .unset, .unset, .unset, .unset] [])) _
      refine st181 _ ?_
      show Steps p.tables e below (T181.setTop (mkF m 335 #[.val (.int p1), .val (.int p2), .val (.int p3), .val (.int p4), .val (.int p5), .val (.int l1), .val (.int l2), .val (.int l3), .val (.int l4), .val (.int s1), .val (.int s2), .val (.int kd), .val (.int n0_), .val (.int n1_), .val (.int m0_), .val (.int m1_), .val (.int q0_), .val (.int q1_), .val (.int r0_), .val (.int r1_), .val (.ref x0), .val (.ref x1), .val (.ref x2), .val (.ref x3), .val (.ref t1), .val (.int (own_teq (own_cs l1 n0_ n1_) (own_cs l3 q0_ q1_) (own_cs l1 n0_ n1_) (own_cs l3 q0_ q1_))), .unset, .unset, .unset, .unset] [(.ref t2)])) _
      refine XS.dup X181.here hx rfl (hb hby at_335) rfl rfl ?_
      show Steps p.tables e below (T181.setTop (mkF m 336 #[.val (.int p1), .val (.int p2), .val (.int p3), .val (.int p4), .val (.int p5), .val (.int l1), .val (.int l2), .val (.int l3), .val (.int l4), .val (.int s1), .val (.int s2), .val (.int kd), .val (.int n0_), .val (.int n1_), .val (.int m0_), .val (.int m1_), .val (.int q0_), .val (.int q1_), .val (.int r0_), .val (.int r1_), .val (.ref x0), .val (.ref x1), .val (.ref x2), .val (.ref x3), .val (.ref t1), .val (.int (own_teq (own_cs l1 n0_ n1_) (own_cs l3 q0_ q1_) (own_cs l1 n0_ n1_) (own_cs l3 q0_ q1_))), .unset, .unset, .unset, .unset] [(.ref t2), (.ref t2)])) _
      refine XS.aload X181.here hx rfl (hb hby at_336) rfl rfl ?_
      show Steps p.tables e below (T181.setTop (mkF m 338 #[.val (.int p1), .val (.int p2), .val (.int p3), .val (.int p4), .val (.int p5), .val (.int l1), .val (.int l2), .val (.int l3), .val (.int l4), .val (.int s1), .val (.int s2), .val (.int kd), .val (.int n0_), .val (.int n1_), .val (.int m0_), .val (.int m1_), .val (.int q0_), .val (.int q1_), .val (.int r0_), .val (.int r1_), .val (.ref x0), .val (.ref x1), .val (.ref x2), .val (.ref x3), .val (.ref t1), .val (.int (own_teq (own_cs l1 n0_ n1_) (own_cs l3 q0_ q1_) (own_cs l1 n0_ n1_) (own_cs l3 q0_ q1_))), .unset, .unset, .unset, .unset] [(.ref x1), (.ref t2), (.ref t2)])) _
      refine XS.aload X181.here hx rfl (hb hby at_338) rfl rfl ?_
      show Steps p.tables e below (T181.setTop (mkF m 340 #[.val (.int p1), .val (.int p2), .val (.int p3), .val (.int p4), .val (.int p5), .val (.int l1), .val (.int l2), .val (.int l3), .val (.int l4), .val (.int s1), .val (.int s2), .val (.int kd), .val (.int n0_), .val (.int n1_), .val (.int m0_), .val (.int m1_), .val (.int q0_), .val (.int q1_), .val (.int r0_), .val (.int r1_), .val (.ref x0), .val (.ref x1), .val (.ref x2), .val (.ref x3), .val (.ref t1), .val (.int (own_teq (own_cs l1 n0_ n1_) (own_cs l3 q0_ q1_) (own_cs l1 n0_ n1_) (own_cs l3 q0_ q1_))), .unset, .unset, .unset, .unset] [(.ref x3), (.ref x1), (.ref t2), (.ref t2)])) _
      refine st188.trans ?_
      show Steps p.tables e below (T188.setTop (mkF m 343 #[.val (.int p1), .val (.int p2), .val (.int p3), .val (.int p4), .val (.int p5), .val (.int l1), .val (.int l2), .val (.int l3), .val (.int l4), .val (.int s1), .val (.int s2), .val (.int kd), .val (.int n0_), .val (.int n1_), .val (.int m0_), .val (.int m1_), .val (.int q0_), .val (.int q1_), .val (.int r0_), .val (.int r1_), .val (.ref x0), .val (.ref x1), .val (.ref x2), .val (.ref x3), .val (.ref t1), .val (.int (own_teq (own_cs l1 n0_ n1_) (own_cs l3 q0_ q1_) (own_cs l1 n0_ n1_) (own_cs l3 q0_ q1_))), .unset, .unset, .unset, .unset] [(.ref t2)])) _
      refine XS.astore X188'.here hx rfl (hb hby at_343) rfl rfl (l' := #[.val (.int p1), .val (.int p2), .val (.int p3), .val (.int p4), .val (.int p5), .val (.int l1), .val (.int l2), .val (.int l3), .val (.int l4), .val (.int s1), .val (.int s2), .val (.int kd), .val (.int n0_), .val (.int n1_), .val (.int m0_), .val (.int m1_), .val (.int q0_), .val (.int q1_), .val (.int r0_), .val (.int r1_), .val (.ref x0), .val (.ref x1), .val (.ref x2), .val (.ref x3), .val (.ref t1), .val (.int (own_teq (own_cs l1 n0_ n1_) (own_cs l3 q0_ q1_) (own_cs l1 n0_ n1_) (own_cs l3 q0_ q1_))), .val (.ref t2), .unset, .unset, .unset]) rfl ?_
      show Steps p.tables e below (T188.setTop (mkF m 345 #[.val (.int p1), .val (.int p2), .val (.int p3), .val (.int p4), .val (.int p5), .val (.int l1), .val (.int l2), .val (.int l3), .val (.int l4), .val (.int s1), .val (.int s2), .val (.int kd), .val (.int n0_), .val (.int n1_), .val (.int m0_), .val (.int m1_), .val (.int q0_), .val (.int q1_), .val (.int r0_), .val (.int r1_), .val (.ref x0), .val (.ref x1), .val (.ref x2), .val (.ref x3), .val (.ref t1), .val (.int (own_teq (own_cs l1 n0_ n1_) (own_cs l3 q0_ q1_) (own_cs l1 n0_ n1_) (own_cs l3 q0_ q1_))), .val (.ref t2), .unset, .unset, .unset] [])) _
      refine XS.iload X188'.here hx rfl (hb hby at_345) rfl ?_
      show Steps p.tables e below (T188.setTop (mkF m 347 #[.val (.int p1), .val (.int p2), .val (.int p3), .val (.int p4), .val (.int p5), .val (.int l1), .val (.int l2), .val (.int l3), .val (.int l4), .val (.int s1), .val (.int s2), .val (.int kd), .val (.int n0_), .val (.int n1_), .val (.int m0_), .val (.int m1_), .val (.int q0_), .val (.int q1_), .val (.int r0_), .val (.int r1_), .val (.ref x0), .val (.ref x1), .val (.ref x2), .val (.ref x3), .val (.ref t1), .val (.int (own_teq (own_cs l1 n0_ n1_) (own_cs l3 q0_ q1_) (own_cs l1 n0_ n1_) (own_cs l3 q0_ q1_))), .val (.ref t2), .unset, .unset, .unset] [(.int l1)])) _
      refine XS.iload X188'.here hx rfl (hb hby at_347) rfl ?_
      show Steps p.tables e below (T188.setTop (mkF m 349 #[.val (.int p1), .val (.int p2), .val (.int p3), .val (.int p4), .val (.int p5), .val (.int l1), .val (.int l2), .val (.int l3), .val (.int l4), .val (.int s1), .val (.int s2), .val (.int kd), .val (.int n0_), .val (.int n1_), .val (.int m0_), .val (.int m1_), .val (.int q0_), .val (.int q1_), .val (.int r0_), .val (.int r1_), .val (.ref x0), .val (.ref x1), .val (.ref x2), .val (.ref x3), .val (.ref t1), .val (.int (own_teq (own_cs l1 n0_ n1_) (own_cs l3 q0_ q1_) (own_cs l1 n0_ n1_) (own_cs l3 q0_ q1_))), .val (.ref t2), .unset, .unset, .unset] [(.int n0_), (.int l1)])) _
      refine XS.iload X188'.here hx rfl (hb hby at_349) rfl ?_
      show Steps p.tables e below (T188.setTop (mkF m 351 #[.val (.int p1), .val (.int p2), .val (.int p3), .val (.int p4), .val (.int p5), .val (.int l1), .val (.int l2), .val (.int l3), .val (.int l4), .val (.int s1), .val (.int s2), .val (.int kd), .val (.int n0_), .val (.int n1_), .val (.int m0_), .val (.int m1_), .val (.int q0_), .val (.int q1_), .val (.int r0_), .val (.int r1_), .val (.ref x0), .val (.ref x1), .val (.ref x2), .val (.ref x3), .val (.ref t1), .val (.int (own_teq (own_cs l1 n0_ n1_) (own_cs l3 q0_ q1_) (own_cs l1 n0_ n1_) (own_cs l3 q0_ q1_))), .val (.ref t2), .unset, .unset, .unset] [(.int n1_), (.int n0_), (.int l1)])) _
      refine XS.iload X188'.here hx rfl (hb hby at_351) rfl ?_
      show Steps p.tables e below (T188.setTop (mkF m 353 #[.val (.int p1), .val (.int p2), .val (.int p3), .val (.int p4), .val (.int p5), .val (.int l1), .val (.int l2), .val (.int l3), .val (.int l4), .val (.int s1), .val (.int s2), .val (.int kd), .val (.int n0_), .val (.int n1_), .val (.int m0_), .val (.int m1_), .val (.int q0_), .val (.int q1_), .val (.int r0_), .val (.int r1_), .val (.ref x0), .val (.ref x1), .val (.ref x2), .val (.ref x3), .val (.ref t1), .val (.int (own_teq (own_cs l1 n0_ n1_) (own_cs l3 q0_ q1_) (own_cs l1 n0_ n1_) (own_cs l3 q0_ q1_))), .val (.ref t2), .unset, .unset, .unset] [(.int l2), (.int n1_), (.int n0_), (.int l1)])) _
      refine XS.iload X188'.here hx rfl (hb hby at_353) rfl ?_
      show Steps p.tables e below (T188.setTop (mkF m 355 #[.val (.int p1), .val (.int p2), .val (.int p3), .val (.int p4), .val (.int p5), .val (.int l1), .val (.int l2), .val (.int l3), .val (.int l4), .val (.int s1), .val (.int s2), .val (.int kd), .val (.int n0_), .val (.int n1_), .val (.int m0_), .val (.int m1_), .val (.int q0_), .val (.int q1_), .val (.int r0_), .val (.int r1_), .val (.ref x0), .val (.ref x1), .val (.ref x2), .val (.ref x3), .val (.ref t1), .val (.int (own_teq (own_cs l1 n0_ n1_) (own_cs l3 q0_ q1_) (own_cs l1 n0_ n1_) (own_cs l3 q0_ q1_))), .val (.ref t2), .unset, .unset, .unset] [(.int m0_), (.int l2), (.int n1_), (.int n0_), (.int l1)])) _
      refine XS.iload X188'.here hx rfl (hb hby at_355) rfl ?_
      show Steps p.tables e below (T188.setTop (mkF m 357 #[.val (.int p1), .val (.int p2), .val (.int p3), .val (.int p4), .val (.int p5), .val (.int l1), .val (.int l2), .val (.int l3), .val (.int l4), .val (.int s1), .val (.int s2), .val (.int kd), .val (.int n0_), .val (.int n1_), .val (.int m0_), .val (.int m1_), .val (.int q0_), .val (.int q1_), .val (.int r0_), .val (.int r1_), .val (.ref x0), .val (.ref x1), .val (.ref x2), .val (.ref x3), .val (.ref t1), .val (.int (own_teq (own_cs l1 n0_ n1_) (own_cs l3 q0_ q1_) (own_cs l1 n0_ n1_) (own_cs l3 q0_ q1_))), .val (.ref t2), .unset, .unset, .unset] [(.int m1_), (.int m0_), (.int l2), (.int n1_), (.int n0_), (.int l1)])) _
      refine st200 _ ?_
      exact k_)
    by_cases hA : (own_cs l1 n0_ n1_) = (own_cs l2 m0_ m1_)
    · skip
      obtain ⟨_, _, ⟨T202, L202, k202, n202⟩, -, X202, ⟨Lc202, hQ202, l202, y202, z202⟩, st202⟩ := Jvm.LawKit.callS X200 hx (y := (⟨"com/example/cranfield/cranfield/model/TopicEqualsPinLaw", "same", "(ICCICC)Z"⟩ : MethodName)) hown188 (mvT hZ188 (hw _ (List.mem_of_getElem? (i := 56) rfl))) (mvT hZ188 (hw _ (List.mem_of_getElem? (i := 57) rfl))) (mvT hZ188 (hw _ (List.mem_of_getElem? (i := 2) rfl))) (mvT hZ188 (hw _ (List.mem_of_getElem? (i := 58) rfl))) (by decide) (backOf (W := 0) (rmSame l Z a0 hw [] l3 q0_ q1_ l4 r0_ r1_ T188.heap n0 Z198 h3 hj_l4) hZ188 (hw _ (List.mem_of_getElem? (i := 58) rfl)) (hw _ (List.mem_of_getElem? (i := 2) rfl)) (by decide) (by decide)) (g := (mkF m 375 #[.val (.int p1), .val (.int p2), .val (.int p3), .val (.int p4), .val (.int p5), .val (.int l1), .val (.int l2), .val (.int l3), .val (.int l4), .val (.int s1), .val (.int s2), .val (.int kd), .val (.int n0_), .val (.int n1_), .val (.int m0_), .val (.int m1_), .val (.int q0_), .val (.int q1_), .val (.int r0_), .val (.int r1_), .val (.ref x0), .val (.ref x1), .val (.ref x2), .val (.ref x3), .val (.ref t1), .val (.int (own_teq (own_cs l1 n0_ n1_) (own_cs l3 q0_ q1_) (own_cs l1 n0_ n1_) (own_cs l3 q0_ q1_))), .val (.ref t2), .unset, .unset, .unset] [(.int r1_), (.int r0_), (.int l4), (.int q1_), (.int q0_), (.int l3)])) rfl (by rw [hml]; rfl) (argsL := [(.int l3), (.int q0_), (.int q1_), (.int l4), (.int r0_), (.int r1_)]) (rest := []) (lenOf pd_6 rfl) rfl (by show 2 * 0 + _ ≤ _; exact Nat.le_of_eq rfl) (hb hby at_375) (fun _ _ => ⟨rfl, e200, (by decide : 34 + 0 ≤ _), (by decide : 156 + 0 ≤ _)⟩)
      dsimp only [Pt.U, Pt.locs, Pt.cells, Pt.slots] at X202 l202 y202 z202 st202 hQ202
      subst l202 y202 z202
      obtain ⟨rfl, N202q, e202⟩ := hQ202
      have N202 := Fr.app N200 N202q
      have pre203 : ∀ t_, Steps p.tables e below (T202.setTop (mkF m 378 #[.val (.int p1), .val (.int p2), .val (.int p3), .val (.int p4), .val (.int p5), .val (.int l1), .val (.int l2), .val (.int l3), .val (.int l4), .val (.int s1), .val (.int s2), .val (.int kd), .val (.int n0_), .val (.int n1_), .val (.int m0_), .val (.int m1_), .val (.int q0_), .val (.int q1_), .val (.int r0_), .val (.int r1_), .val (.ref x0), .val (.ref x1), .val (.ref x2), .val (.ref x3), .val (.ref t1), .val (.int (own_teq (own_cs l1 n0_ n1_) (own_cs l3 q0_ q1_) (own_cs l1 n0_ n1_) (own_cs l3 q0_ q1_))), .val (.ref t2), .unset, .unset, .unset] [(.int (if own_cs l3 q0_ q1_ = own_cs l4 r0_ r1_ then (1 : Int32) else 0))])) t_ → Steps p.tables e below (s₁.setTop (entryFrame m #[(.int p1), (.int p2), (.int p3), (.int p4), (.int p5)] maxLocals)) t_ := fun t_ k_ => pre201 _ (by
        show Steps p.tables e below (T200.setTop (mkF m 360 #[.val (.int p1), .val (.int p2), .val (.int p3), .val (.int p4), .val (.int p5), .val (.int l1), .val (.int l2), .val (.int l3), .val (.int l4), .val (.int s1), .val (.int s2), .val (.int kd), .val (.int n0_), .val (.int n1_), .val (.int m0_), .val (.int m1_), .val (.int q0_), .val (.int q1_), .val (.int r0_), .val (.int r1_), .val (.ref x0), .val (.ref x1), .val (.ref x2), .val (.ref x3), .val (.ref t1), .val (.int (own_teq (own_cs l1 n0_ n1_) (own_cs l3 q0_ q1_) (own_cs l1 n0_ n1_) (own_cs l3 q0_ q1_))), .val (.ref t2), .unset, .unset, .unset] [(.int (if own_cs l1 n0_ n1_ = own_cs l2 m0_ m1_ then (1 : Int32) else 0))])) _
        refine XS.ifNo X200.here hx rfl (hb hby at_360) rfl ((if0 _ _).trans (feq (by rw [if_pos hA]; decide)).1) ?_
        show Steps p.tables e below (T200.setTop (mkF m 363 #[.val (.int p1), .val (.int p2), .val (.int p3), .val (.int p4), .val (.int p5), .val (.int l1), .val (.int l2), .val (.int l3), .val (.int l4), .val (.int s1), .val (.int s2), .val (.int kd), .val (.int n0_), .val (.int n1_), .val (.int m0_), .val (.int m1_), .val (.int q0_), .val (.int q1_), .val (.int r0_), .val (.int r1_), .val (.ref x0), .val (.ref x1), .val (.ref x2), .val (.ref x3), .val (.ref t1), .val (.int (own_teq (own_cs l1 n0_ n1_) (own_cs l3 q0_ q1_) (own_cs l1 n0_ n1_) (own_cs l3 q0_ q1_))), .val (.ref t2), .unset, .unset, .unset] [])) _
        refine XS.iload X200.here hx rfl (hb hby at_363) rfl ?_
        show Steps p.tables e below (T200.setTop (mkF m 365 #[.val (.int p1), .val (.int p2), .val (.int p3), .val (.int p4), .val (.int p5), .val (.int l1), .val (.int l2), .val (.int l3), .val (.int l4), .val (.int s1), .val (.int s2), .val (.int kd), .val (.int n0_), .val (.int n1_), .val (.int m0_), .val (.int m1_), .val (.int q0_), .val (.int q1_), .val (.int r0_), .val (.int r1_), .val (.ref x0), .val (.ref x1), .val (.ref x2), .val (.ref x3), .val (.ref t1), .val (.int (own_teq (own_cs l1 n0_ n1_) (own_cs l3 q0_ q1_) (own_cs l1 n0_ n1_) (own_cs l3 q0_ q1_))), .val (.ref t2), .unset, .unset, .unset] [(.int l3)])) _
        refine XS.iload X200.here hx rfl (hb hby at_365) rfl ?_
        show Steps p.tables e below (T200.setTop (mkF m 367 #[.val (.int p1), .val (.int p2), .val (.int p3), .val (.int p4), .val (.int p5), .val (.int l1), .val (.int l2), .val (.int l3), .val (.int l4), .val (.int s1), .val (.int s2), .val (.int kd), .val (.int n0_), .val (.int n1_), .val (.int m0_), .val (.int m1_), .val (.int q0_), .val (.int q1_), .val (.int r0_), .val (.int r1_), .val (.ref x0), .val (.ref x1), .val (.ref x2), .val (.ref x3), .val (.ref t1), .val (.int (own_teq (own_cs l1 n0_ n1_) (own_cs l3 q0_ q1_) (own_cs l1 n0_ n1_) (own_cs l3 q0_ q1_))), .val (.ref t2), .unset, .unset, .unset] [(.int q0_), (.int l3)])) _
        refine XS.iload X200.here hx rfl (hb hby at_367) rfl ?_
        show Steps p.tables e below (T200.setTop (mkF m 369 #[.val (.int p1), .val (.int p2), .val (.int p3), .val (.int p4), .val (.int p5), .val (.int l1), .val (.int l2), .val (.int l3), .val (.int l4), .val (.int s1), .val (.int s2), .val (.int kd), .val (.int n0_), .val (.int n1_), .val (.int m0_), .val (.int m1_), .val (.int q0_), .val (.int q1_), .val (.int r0_), .val (.int r1_), .val (.ref x0), .val (.ref x1), .val (.ref x2), .val (.ref x3), .val (.ref t1), .val (.int (own_teq (own_cs l1 n0_ n1_) (own_cs l3 q0_ q1_) (own_cs l1 n0_ n1_) (own_cs l3 q0_ q1_))), .val (.ref t2), .unset, .unset, .unset] [(.int q1_), (.int q0_), (.int l3)])) _
        refine XS.iload X200.here hx rfl (hb hby at_369) rfl ?_
        show Steps p.tables e below (T200.setTop (mkF m 371 #[.val (.int p1), .val (.int p2), .val (.int p3), .val (.int p4), .val (.int p5), .val (.int l1), .val (.int l2), .val (.int l3), .val (.int l4), .val (.int s1), .val (.int s2), .val (.int kd), .val (.int n0_), .val (.int n1_), .val (.int m0_), .val (.int m1_), .val (.int q0_), .val (.int q1_), .val (.int r0_), .val (.int r1_), .val (.ref x0), .val (.ref x1), .val (.ref x2), .val (.ref x3), .val (.ref t1), .val (.int (own_teq (own_cs l1 n0_ n1_) (own_cs l3 q0_ q1_) (own_cs l1 n0_ n1_) (own_cs l3 q0_ q1_))), .val (.ref t2), .unset, .unset, .unset] [(.int l4), (.int q1_), (.int q0_), (.int l3)])) _
        refine XS.iload X200.here hx rfl (hb hby at_371) rfl ?_
        show Steps p.tables e below (T200.setTop (mkF m 373 #[.val (.int p1), .val (.int p2), .val (.int p3), .val (.int p4), .val (.int p5), .val (.int l1), .val (.int l2), .val (.int l3), .val (.int l4), .val (.int s1), .val (.int s2), .val (.int kd), .val (.int n0_), .val (.int n1_), .val (.int m0_), .val (.int m1_), .val (.int q0_), .val (.int q1_), .val (.int r0_), .val (.int r1_), .val (.ref x0), .val (.ref x1), .val (.ref x2), .val (.ref x3), .val (.ref t1), .val (.int (own_teq (own_cs l1 n0_ n1_) (own_cs l3 q0_ q1_) (own_cs l1 n0_ n1_) (own_cs l3 q0_ q1_))), .val (.ref t2), .unset, .unset, .unset] [(.int r0_), (.int l4), (.int q1_), (.int q0_), (.int l3)])) _
        refine XS.iload X200.here hx rfl (hb hby at_373) rfl ?_
        show Steps p.tables e below (T200.setTop (mkF m 375 #[.val (.int p1), .val (.int p2), .val (.int p3), .val (.int p4), .val (.int p5), .val (.int l1), .val (.int l2), .val (.int l3), .val (.int l4), .val (.int s1), .val (.int s2), .val (.int kd), .val (.int n0_), .val (.int n1_), .val (.int m0_), .val (.int m1_), .val (.int q0_), .val (.int q1_), .val (.int r0_), .val (.int r1_), .val (.ref x0), .val (.ref x1), .val (.ref x2), .val (.ref x3), .val (.ref t1), .val (.int (own_teq (own_cs l1 n0_ n1_) (own_cs l3 q0_ q1_) (own_cs l1 n0_ n1_) (own_cs l3 q0_ q1_))), .val (.ref t2), .unset, .unset, .unset] [(.int r1_), (.int r0_), (.int l4), (.int q1_), (.int q0_), (.int l3)])) _
        refine st202 _ ?_
        exact k_)
      by_cases hB : (own_cs l3 q0_ q1_) = (own_cs l4 r0_ r1_)
      · skip
        obtain ⟨cq204, kq204, q204a, q204b, q204c⟩ := isOf hZ188 e202 E_t1_194
        obtain ⟨_, _, ⟨T204, L204, k204, n204⟩, -, X204, ⟨Lc204, hQ204, l204, y204, z204⟩, st204⟩ := X202.virtualBack hx (y := (⟨"com/example/cranfield/cranfield/model/Topic", "equals", "(Ljava/lang/Object;)Z"⟩ : MethodName)) (z := (⟨"com/example/cranfield/cranfield/model/Topic", "equals", "(Ljava/lang/Object;)Z"⟩ : MethodName)) hown188 (mvT hZ188 (hw _ (List.mem_of_getElem? (i := 44) rfl))) (mvT hZ188 (hw _ (List.mem_of_getElem? (i := 45) rfl))) (notFace_of_selects (args := #[]) (mvT hZ188 (hw _ (List.mem_of_getElem? (i := 47) rfl)))) (mvT hZ188 (hw _ (List.mem_of_getElem? (i := 47) rfl))) (mvT hZ188 (hw _ (List.mem_of_getElem? (i := 46) rfl))) (by decide) (backOf (W := 0) (rmE2 l Z a0 hw [] t1 t2 x0 x2 x1 x3 (own_cs l1 n0_ n1_) (own_cs l3 q0_ q1_) (own_cs l2 m0_ m1_) (own_cs l4 r0_ r1_) zc T188.heap n0 Z198 E188 F0_t1_195 F1_t1_196 F0188 F1188 T_189 T_191 T_190 T_192 (S_c.ext O_199.2) hzc) hZ188 (hw _ (List.mem_of_getElem? (i := 48) rfl)) (hw _ (List.mem_of_getElem? (i := 28) rfl)) (by decide) (by decide)) q204a q204c (g := (mkF m 392 #[.val (.int p1), .val (.int p2), .val (.int p3), .val (.int p4), .val (.int p5), .val (.int l1), .val (.int l2), .val (.int l3), .val (.int l4), .val (.int s1), .val (.int s2), .val (.int kd), .val (.int n0_), .val (.int n1_), .val (.int m0_), .val (.int m1_), .val (.int q0_), .val (.int q1_), .val (.int r0_), .val (.int r1_), .val (.ref x0), .val (.ref x1), .val (.ref x2), .val (.ref x3), .val (.ref t1), .val (.int (own_teq (own_cs l1 n0_ n1_) (own_cs l3 q0_ q1_) (own_cs l1 n0_ n1_) (own_cs l3 q0_ q1_))), .val (.ref t2), .val (.int (1 : Int32)), .unset, .unset] [(.ref t2), (.ref t1)])) rfl (by rw [hml]; rfl) (Steps.refl _) (argsL := [(.ref t2)]) (rest := []) (lenOf pd_3 rfl) rfl (by show 2 * 0 + _ ≤ _; exact Nat.le_of_eq rfl) (hb hby at_392) (fun _ _ => ⟨rfl, e202, (by decide : 34 + 0 ≤ _), (by decide : 156 + 0 ≤ _)⟩)
        dsimp only [Pt.U, Pt.locs, Pt.cells, Pt.slots] at X204 l204 y204 z204 st204 hQ204
        subst l204 y204 z204
        obtain ⟨rfl, N204q, e204⟩ := hQ204
        have N204 := Fr.app N202 N204q
        obtain ⟨cq205, kq205, q205a, q205b, q205c⟩ := isOf hZ188 e204 E188
        obtain ⟨_, _, ⟨T205, L205, k205, n205⟩, -, X205, ⟨Lc205, hQ205, l205, y205, z205⟩, st205⟩ := X204.virtualBack hx (y := (⟨"java/lang/Object", "equals", "(Ljava/lang/Object;)Z"⟩ : MethodName)) (z := (⟨"com/example/cranfield/cranfield/model/Topic", "equals", "(Ljava/lang/Object;)Z"⟩ : MethodName)) hown188 (mvT hZ188 (hw _ (List.mem_of_getElem? (i := 65) rfl))) (mvT hZ188 (hw _ (List.mem_of_getElem? (i := 66) rfl))) (nf_top (args := #[]) (mvT hZ188 (hw _ (List.mem_of_getElem? (i := 80) rfl)))) (mvT hZ188 (hw _ (List.mem_of_getElem? (i := 68) rfl))) (mvT hZ188 (hw _ (List.mem_of_getElem? (i := 46) rfl))) (by decide) (backOf (W := 0) (rmE2 l Z a0 hw [] t2 t1 x1 x3 x0 x2 (own_cs l2 m0_ m1_) (own_cs l4 r0_ r1_) (own_cs l1 n0_ n1_) (own_cs l3 q0_ q1_) zc T188.heap n0 Z198 E_t1_194 F0188 F1188 F0_t1_195 F1_t1_196 T_190 T_192 T_189 T_191 (S_c.ext O_199.2) hzc) hZ188 (hw _ (List.mem_of_getElem? (i := 48) rfl)) (hw _ (List.mem_of_getElem? (i := 28) rfl)) (by decide) (by decide)) q205a q205c (g := (mkF m 410 #[.val (.int p1), .val (.int p2), .val (.int p3), .val (.int p4), .val (.int p5), .val (.int l1), .val (.int l2), .val (.int l3), .val (.int l4), .val (.int s1), .val (.int s2), .val (.int kd), .val (.int n0_), .val (.int n1_), .val (.int m0_), .val (.int m1_), .val (.int q0_), .val (.int q1_), .val (.int r0_), .val (.int r1_), .val (.ref x0), .val (.ref x1), .val (.ref x2), .val (.ref x3), .val (.ref t1), .val (.int (own_teq (own_cs l1 n0_ n1_) (own_cs l3 q0_ q1_) (own_cs l1 n0_ n1_) (own_cs l3 q0_ q1_))), .val (.ref t2), .val (.int (1 : Int32)), .val (.int (own_teq (own_cs l1 n0_ n1_) (own_cs l3 q0_ q1_) (own_cs l2 m0_ m1_) (own_cs l4 r0_ r1_))), .val (.int (1 : Int32))] [(.ref t1), (.ref t2)])) rfl (by rw [hml]; rfl) (Steps.refl _) (argsL := [(.ref t1)]) (rest := []) (lenOf pd_3 rfl) rfl (by show 2 * 0 + _ ≤ _; exact Nat.le_of_eq rfl) (hb hby at_410) (fun _ _ => ⟨rfl, e204, (by decide : 34 + 0 ≤ _), (by decide : 156 + 0 ≤ _)⟩)
        dsimp only [Pt.U, Pt.locs, Pt.cells, Pt.slots] at X205 l205 y205 z205 st205 hQ205
        subst l205 y205 z205
        obtain ⟨rfl, N205q, e205⟩ := hQ205
        have N205 := Fr.app N204 N205q
        have pre206 : ∀ t_, Steps p.tables e below (T205.setTop (mkF m 447 #[.val (.int p1), .val (.int p2), .val (.int p3), .val (.int p4), .val (.int p5), .val (.int l1), .val (.int l2), .val (.int l3), .val (.int l4), .val (.int s1), .val (.int s2), .val (.int kd), .val (.int n0_), .val (.int n1_), .val (.int m0_), .val (.int m1_), .val (.int q0_), .val (.int q1_), .val (.int r0_), .val (.int r1_), .val (.ref x0), .val (.ref x1), .val (.ref x2), .val (.ref x3), .val (.ref t1), .val (.int (own_teq (own_cs l1 n0_ n1_) (own_cs l3 q0_ q1_) (own_cs l1 n0_ n1_) (own_cs l3 q0_ q1_))), .val (.ref t2), .val (.int (1 : Int32)), .val (.int (own_teq (own_cs l1 n0_ n1_) (own_cs l3 q0_ q1_) (own_cs l2 m0_ m1_) (own_cs l4 r0_ r1_))), .val (.int (1 : Int32))] [(.int (1 : Int32))])) t_ → Steps p.tables e below (s₁.setTop (entryFrame m #[(.int p1), (.int p2), (.int p3), (.int p4), (.int p5)] maxLocals)) t_ := fun t_ k_ => pre203 _ (by
          show Steps p.tables e below (T202.setTop (mkF m 378 #[.val (.int p1), .val (.int p2), .val (.int p3), .val (.int p4), .val (.int p5), .val (.int l1), .val (.int l2), .val (.int l3), .val (.int l4), .val (.int s1), .val (.int s2), .val (.int kd), .val (.int n0_), .val (.int n1_), .val (.int m0_), .val (.int m1_), .val (.int q0_), .val (.int q1_), .val (.int r0_), .val (.int r1_), .val (.ref x0), .val (.ref x1), .val (.ref x2), .val (.ref x3), .val (.ref t1), .val (.int (own_teq (own_cs l1 n0_ n1_) (own_cs l3 q0_ q1_) (own_cs l1 n0_ n1_) (own_cs l3 q0_ q1_))), .val (.ref t2), .unset, .unset, .unset] [(.int (if own_cs l3 q0_ q1_ = own_cs l4 r0_ r1_ then (1 : Int32) else 0))])) _
          refine XS.ifNo X202.here hx rfl (hb hby at_378) rfl ((if0 _ _).trans (feq (by rw [if_pos hB]; decide)).1) ?_
          show Steps p.tables e below (T202.setTop (mkF m 381 #[.val (.int p1), .val (.int p2), .val (.int p3), .val (.int p4), .val (.int p5), .val (.int l1), .val (.int l2), .val (.int l3), .val (.int l4), .val (.int s1), .val (.int s2), .val (.int kd), .val (.int n0_), .val (.int n1_), .val (.int m0_), .val (.int m1_), .val (.int q0_), .val (.int q1_), .val (.int r0_), .val (.int r1_), .val (.ref x0), .val (.ref x1), .val (.ref x2), .val (.ref x3), .val (.ref t1), .val (.int (own_teq (own_cs l1 n0_ n1_) (own_cs l3 q0_ q1_) (own_cs l1 n0_ n1_) (own_cs l3 q0_ q1_))), .val (.ref t2), .unset, .unset, .unset] [])) _
          refine XS.iconst X202.here hx rfl (hb hby at_381) ?_
          show Steps p.tables e below (T202.setTop (mkF m 382 #[.val (.int p1), .val (.int p2), .val (.int p3), .val (.int p4), .val (.int p5), .val (.int l1), .val (.int l2), .val (.int l3), .val (.int l4), .val (.int s1), .val (.int s2), .val (.int kd), .val (.int n0_), .val (.int n1_), .val (.int m0_), .val (.int m1_), .val (.int q0_), .val (.int q1_), .val (.int r0_), .val (.int r1_), .val (.ref x0), .val (.ref x1), .val (.ref x2), .val (.ref x3), .val (.ref t1), .val (.int (own_teq (own_cs l1 n0_ n1_) (own_cs l3 q0_ q1_) (own_cs l1 n0_ n1_) (own_cs l3 q0_ q1_))), .val (.ref t2), .unset, .unset, .unset] [(.int (1 : Int32))])) _
          refine XS.goto X202.here hx rfl (pc0 := 382) (pc' := 386) rfl (hb hby at_382) (by decide) (by decide) ?_
          show Steps p.tables e below (T202.setTop (mkF m 386 #[.val (.int p1), .val (.int p2), .val (.int p3), .val (.int p4), .val (.int p5), .val (.int l1), .val (.int l2), .val (.int l3), .val (.int l4), .val (.int s1), .val (.int s2), .val (.int kd), .val (.int n0_), .val (.int n1_), .val (.int m0_), .val (.int m1_), .val (.int q0_), .val (.int q1_), .val (.int r0_), .val (.int r1_), .val (.ref x0), .val (.ref x1), .val (.ref x2), .val (.ref x3), .val (.ref t1), .val (.int (own_teq (own_cs l1 n0_ n1_) (own_cs l3 q0_ q1_) (own_cs l1 n0_ n1_) (own_cs l3 q0_ q1_))), .val (.ref t2), .unset, .unset, .unset] [(.int (1 : Int32))])) _
          refine XS.istore X202.here hx rfl (hb hby at_386) rfl (l' := #[.val (.int p1), .val (.int p2), .val (.int p3), .val (.int p4), .val (.int p5), .val (.int l1), .val (.int l2), .val (.int l3), .val (.int l4), .val (.int s1), .val (.int s2), .val (.int kd), .val (.int n0_), .val (.int n1_), .val (.int m0_), .val (.int m1_), .val (.int q0_), .val (.int q1_), .val (.int r0_), .val (.int r1_), .val (.ref x0), .val (.ref x1), .val (.ref x2), .val (.ref x3), .val (.ref t1), .val (.int (own_teq (own_cs l1 n0_ n1_) (own_cs l3 q0_ q1_) (own_cs l1 n0_ n1_) (own_cs l3 q0_ q1_))), .val (.ref t2), .val (.int (1 : Int32)), .unset, .unset]) rfl ?_
          show Steps p.tables e below (T202.setTop (mkF m 388 #[.val (.int p1), .val (.int p2), .val (.int p3), .val (.int p4), .val (.int p5), .val (.int l1), .val (.int l2), .val (.int l3), .val (.int l4), .val (.int s1), .val (.int s2), .val (.int kd), .val (.int n0_), .val (.int n1_), .val (.int m0_), .val (.int m1_), .val (.int q0_), .val (.int q1_), .val (.int r0_), .val (.int r1_), .val (.ref x0), .val (.ref x1), .val (.ref x2), .val (.ref x3), .val (.ref t1), .val (.int (own_teq (own_cs l1 n0_ n1_) (own_cs l3 q0_ q1_) (own_cs l1 n0_ n1_) (own_cs l3 q0_ q1_))), .val (.ref t2), .val (.int (1 : Int32)), .unset, .unset] [])) _
          refine XS.aload X202.here hx rfl (hb hby at_388) rfl rfl ?_
          show Steps p.tables e below (T202.setTop (mkF m 390 #[.val (.int p1), .val (.int p2), .val (.int p3), .val (.int p4), .val (.int p5), .val (.int l1), .val (.int l2), .val (.int l3), .val (.int l4), .val (.int s1), .val (.int s2), .val (.int kd), .val (.int n0_), .val (.int n1_), .val (.int m0_), .val (.int m1_), .val (.int q0_), .val (.int q1_), .val (.int r0_), .val (.int r1_), .val (.ref x0), .val (.ref x1), .val (.ref x2), .val (.ref x3), .val (.ref t1), .val (.int (own_teq (own_cs l1 n0_ n1_) (own_cs l3 q0_ q1_) (own_cs l1 n0_ n1_) (own_cs l3 q0_ q1_))), .val (.ref t2), .val (.int (1 : Int32)), .unset, .unset] [(.ref t1)])) _
          refine XS.aload X202.here hx rfl (hb hby at_390) rfl rfl ?_
          show Steps p.tables e below (T202.setTop (mkF m 392 #[.val (.int p1), .val (.int p2), .val (.int p3), .val (.int p4), .val (.int p5), .val (.int l1), .val (.int l2), .val (.int l3), .val (.int l4), .val (.int s1), .val (.int s2), .val (.int kd), .val (.int n0_), .val (.int n1_), .val (.int m0_), .val (.int m1_), .val (.int q0_), .val (.int q1_), .val (.int r0_), .val (.int r1_), .val (.ref x0), .val (.ref x1), .val (.ref x2), .val (.ref x3), .val (.ref t1), .val (.int (own_teq (own_cs l1 n0_ n1_) (own_cs l3 q0_ q1_) (own_cs l1 n0_ n1_) (own_cs l3 q0_ q1_))), .val (.ref t2), .val (.int (1 : Int32)), .unset, .unset] [(.ref t2), (.ref t1)])) _
          refine st204.trans ?_
          show Steps p.tables e below (T204.setTop (mkF m 395 #[.val (.int p1), .val (.int p2), .val (.int p3), .val (.int p4), .val (.int p5), .val (.int l1), .val (.int l2), .val (.int l3), .val (.int l4), .val (.int s1), .val (.int s2), .val (.int kd), .val (.int n0_), .val (.int n1_), .val (.int m0_), .val (.int m1_), .val (.int q0_), .val (.int q1_), .val (.int r0_), .val (.int r1_), .val (.ref x0), .val (.ref x1), .val (.ref x2), .val (.ref x3), .val (.ref t1), .val (.int (own_teq (own_cs l1 n0_ n1_) (own_cs l3 q0_ q1_) (own_cs l1 n0_ n1_) (own_cs l3 q0_ q1_))), .val (.ref t2), .val (.int (1 : Int32)), .unset, .unset] [(.int (own_teq (own_cs l1 n0_ n1_) (own_cs l3 q0_ q1_) (own_cs l2 m0_ m1_) (own_cs l4 r0_ r1_)))])) _
          refine XS.istore X204.here hx rfl (hb hby at_395) rfl (l' := #[.val (.int p1), .val (.int p2), .val (.int p3), .val (.int p4), .val (.int p5), .val (.int l1), .val (.int l2), .val (.int l3), .val (.int l4), .val (.int s1), .val (.int s2), .val (.int kd), .val (.int n0_), .val (.int n1_), .val (.int m0_), .val (.int m1_), .val (.int q0_), .val (.int q1_), .val (.int r0_), .val (.int r1_), .val (.ref x0), .val (.ref x1), .val (.ref x2), .val (.ref x3), .val (.ref t1), .val (.int (own_teq (own_cs l1 n0_ n1_) (own_cs l3 q0_ q1_) (own_cs l1 n0_ n1_) (own_cs l3 q0_ q1_))), .val (.ref t2), .val (.int (1 : Int32)), .val (.int (own_teq (own_cs l1 n0_ n1_) (own_cs l3 q0_ q1_) (own_cs l2 m0_ m1_) (own_cs l4 r0_ r1_))), .unset]) rfl ?_
          show Steps p.tables e below (T204.setTop (mkF m 397 #[.val (.int p1), .val (.int p2), .val (.int p3), .val (.int p4), .val (.int p5), .val (.int l1), .val (.int l2), .val (.int l3), .val (.int l4), .val (.int s1), .val (.int s2), .val (.int kd), .val (.int n0_), .val (.int n1_), .val (.int m0_), .val (.int m1_), .val (.int q0_), .val (.int q1_), .val (.int r0_), .val (.int r1_), .val (.ref x0), .val (.ref x1), .val (.ref x2), .val (.ref x3), .val (.ref t1), .val (.int (own_teq (own_cs l1 n0_ n1_) (own_cs l3 q0_ q1_) (own_cs l1 n0_ n1_) (own_cs l3 q0_ q1_))), .val (.ref t2), .val (.int (1 : Int32)), .val (.int (own_teq (own_cs l1 n0_ n1_) (own_cs l3 q0_ q1_) (own_cs l2 m0_ m1_) (own_cs l4 r0_ r1_))), .unset] [])) _
          refine XS.iconst X204.here hx rfl (hb hby at_397) ?_
          show Steps p.tables e below (T204.setTop (mkF m 398 #[.val (.int p1), .val (.int p2), .val (.int p3), .val (.int p4), .val (.int p5), .val (.int l1), .val (.int l2), .val (.int l3), .val (.int l4), .val (.int s1), .val (.int s2), .val (.int kd), .val (.int n0_), .val (.int n1_), .val (.int m0_), .val (.int m1_), .val (.int q0_), .val (.int q1_), .val (.int r0_), .val (.int r1_), .val (.ref x0), .val (.ref x1), .val (.ref x2), .val (.ref x3), .val (.ref t1), .val (.int (own_teq (own_cs l1 n0_ n1_) (own_cs l3 q0_ q1_) (own_cs l1 n0_ n1_) (own_cs l3 q0_ q1_))), .val (.ref t2), .val (.int (1 : Int32)), .val (.int (own_teq (own_cs l1 n0_ n1_) (own_cs l3 q0_ q1_) (own_cs l2 m0_ m1_) (own_cs l4 r0_ r1_))), .unset] [(.int (1 : Int32))])) _
          refine XS.istore X204.here hx rfl (hb hby at_398) rfl (l' := #[.val (.int p1), .val (.int p2), .val (.int p3), .val (.int p4), .val (.int p5), .val (.int l1), .val (.int l2), .val (.int l3), .val (.int l4), .val (.int s1), .val (.int s2), .val (.int kd), .val (.int n0_), .val (.int n1_), .val (.int m0_), .val (.int m1_), .val (.int q0_), .val (.int q1_), .val (.int r0_), .val (.int r1_), .val (.ref x0), .val (.ref x1), .val (.ref x2), .val (.ref x3), .val (.ref t1), .val (.int (own_teq (own_cs l1 n0_ n1_) (own_cs l3 q0_ q1_) (own_cs l1 n0_ n1_) (own_cs l3 q0_ q1_))), .val (.ref t2), .val (.int (1 : Int32)), .val (.int (own_teq (own_cs l1 n0_ n1_) (own_cs l3 q0_ q1_) (own_cs l2 m0_ m1_) (own_cs l4 r0_ r1_))), .val (.int (1 : Int32))]) rfl ?_
          show Steps p.tables e below (T204.setTop (mkF m 400 #[.val (.int p1), .val (.int p2), .val (.int p3), .val (.int p4), .val (.int p5), .val (.int l1), .val (.int l2), .val (.int l3), .val (.int l4), .val (.int s1), .val (.int s2), .val (.int kd), .val (.int n0_), .val (.int n1_), .val (.int m0_), .val (.int m1_), .val (.int q0_), .val (.int q1_), .val (.int r0_), .val (.int r1_), .val (.ref x0), .val (.ref x1), .val (.ref x2), .val (.ref x3), .val (.ref t1), .val (.int (own_teq (own_cs l1 n0_ n1_) (own_cs l3 q0_ q1_) (own_cs l1 n0_ n1_) (own_cs l3 q0_ q1_))), .val (.ref t2), .val (.int (1 : Int32)), .val (.int (own_teq (own_cs l1 n0_ n1_) (own_cs l3 q0_ q1_) (own_cs l2 m0_ m1_) (own_cs l4 r0_ r1_))), .val (.int (1 : Int32))] [])) _
          refine XS.iload X204.here hx rfl (hb hby at_400) rfl ?_
          show Steps p.tables e below (T204.setTop (mkF m 402 #[.val (.int p1), .val (.int p2), .val (.int p3), .val (.int p4), .val (.int p5), .val (.int l1), .val (.int l2), .val (.int l3), .val (.int l4), .val (.int s1), .val (.int s2), .val (.int kd), .val (.int n0_), .val (.int n1_), .val (.int m0_), .val (.int m1_), .val (.int q0_), .val (.int q1_), .val (.int r0_), .val (.int r1_), .val (.ref x0), .val (.ref x1), .val (.ref x2), .val (.ref x3), .val (.ref t1), .val (.int (own_teq (own_cs l1 n0_ n1_) (own_cs l3 q0_ q1_) (own_cs l1 n0_ n1_) (own_cs l3 q0_ q1_))), .val (.ref t2), .val (.int (1 : Int32)), .val (.int (own_teq (own_cs l1 n0_ n1_) (own_cs l3 q0_ q1_) (own_cs l2 m0_ m1_) (own_cs l4 r0_ r1_))), .val (.int (1 : Int32))] [(.int kd)])) _
          refine XS.iconst X204.here hx rfl (hb hby at_402) ?_
          show Steps p.tables e below (T204.setTop (mkF m 403 #[.val (.int p1), .val (.int p2), .val (.int p3), .val (.int p4), .val (.int p5), .val (.int l1), .val (.int l2), .val (.int l3), .val (.int l4), .val (.int s1), .val (.int s2), .val (.int kd), .val (.int n0_), .val (.int n1_), .val (.int m0_), .val (.int m1_), .val (.int q0_), .val (.int q1_), .val (.int r0_), .val (.int r1_), .val (.ref x0), .val (.ref x1), .val (.ref x2), .val (.ref x3), .val (.ref t1), .val (.int (own_teq (own_cs l1 n0_ n1_) (own_cs l3 q0_ q1_) (own_cs l1 n0_ n1_) (own_cs l3 q0_ q1_))), .val (.ref t2), .val (.int (1 : Int32)), .val (.int (own_teq (own_cs l1 n0_ n1_) (own_cs l3 q0_ q1_) (own_cs l2 m0_ m1_) (own_cs l4 r0_ r1_))), .val (.int (1 : Int32))] [(.int (2 : Int32)), (.int kd)])) _
          refine XS.icmpNo X204.here hx rfl (hb hby at_403) rfl (tlt (by rw [q]; decide)).2.1 ?_
          show Steps p.tables e below (T204.setTop (mkF m 406 #[.val (.int p1), .val (.int p2), .val (.int p3), .val (.int p4), .val (.int p5), .val (.int l1), .val (.int l2), .val (.int l3), .val (.int l4), .val (.int s1), .val (.int s2), .val (.int kd), .val (.int n0_), .val (.int n1_), .val (.int m0_), .val (.int m1_), .val (.int q0_), .val (.int q1_), .val (.int r0_), .val (.int r1_), .val (.ref x0), .val (.ref x1), .val (.ref x2), .val (.ref x3), .val (.ref t1), .val (.int (own_teq (own_cs l1 n0_ n1_) (own_cs l3 q0_ q1_) (own_cs l1 n0_ n1_) (own_cs l3 q0_ q1_))), .val (.ref t2), .val (.int (1 : Int32)), .val (.int (own_teq (own_cs l1 n0_ n1_) (own_cs l3 q0_ q1_) (own_cs l2 m0_ m1_) (own_cs l4 r0_ r1_))), .val (.int (1 : Int32))] [])) _
          refine XS.aload X204.here hx rfl (hb hby at_406) rfl rfl ?_
          show Steps p.tables e below (T204.setTop (mkF m 408 #[.val (.int p1), .val (.int p2), .val (.int p3), .val (.int p4), .val (.int p5), .val (.int l1), .val (.int l2), .val (.int l3), .val (.int l4), .val (.int s1), .val (.int s2), .val (.int kd), .val (.int n0_), .val (.int n1_), .val (.int m0_), .val (.int m1_), .val (.int q0_), .val (.int q1_), .val (.int r0_), .val (.int r1_), .val (.ref x0), .val (.ref x1), .val (.ref x2), .val (.ref x3), .val (.ref t1), .val (.int (own_teq (own_cs l1 n0_ n1_) (own_cs l3 q0_ q1_) (own_cs l1 n0_ n1_) (own_cs l3 q0_ q1_))), .val (.ref t2), .val (.int (1 : Int32)), .val (.int (own_teq (own_cs l1 n0_ n1_) (own_cs l3 q0_ q1_) (own_cs l2 m0_ m1_) (own_cs l4 r0_ r1_))), .val (.int (1 : Int32))] [(.ref t2)])) _
          refine XS.aload X204.here hx rfl (hb hby at_408) rfl rfl ?_
          show Steps p.tables e below (T204.setTop (mkF m 410 #[.val (.int p1), .val (.int p2), .val (.int p3), .val (.int p4), .val (.int p5), .val (.int l1), .val (.int l2), .val (.int l3), .val (.int l4), .val (.int s1), .val (.int s2), .val (.int kd), .val (.int n0_), .val (.int n1_), .val (.int m0_), .val (.int m1_), .val (.int q0_), .val (.int q1_), .val (.int r0_), .val (.int r1_), .val (.ref x0), .val (.ref x1), .val (.ref x2), .val (.ref x3), .val (.ref t1), .val (.int (own_teq (own_cs l1 n0_ n1_) (own_cs l3 q0_ q1_) (own_cs l1 n0_ n1_) (own_cs l3 q0_ q1_))), .val (.ref t2), .val (.int (1 : Int32)), .val (.int (own_teq (own_cs l1 n0_ n1_) (own_cs l3 q0_ q1_) (own_cs l2 m0_ m1_) (own_cs l4 r0_ r1_))), .val (.int (1 : Int32))] [(.ref t1), (.ref t2)])) _
          refine st205.trans ?_
          show Steps p.tables e below (T205.setTop (mkF m 413 #[.val (.int p1), .val (.int p2), .val (.int p3), .val (.int p4), .val (.int p5), .val (.int l1), .val (.int l2), .val (.int l3), .val (.int l4), .val (.int s1), .val (.int s2), .val (.int kd), .val (.int n0_), .val (.int n1_), .val (.int m0_), .val (.int m1_), .val (.int q0_), .val (.int q1_), .val (.int r0_), .val (.int r1_), .val (.ref x0), .val (.ref x1), .val (.ref x2), .val (.ref x3), .val (.ref t1), .val (.int (own_teq (own_cs l1 n0_ n1_) (own_cs l3 q0_ q1_) (own_cs l1 n0_ n1_) (own_cs l3 q0_ q1_))), .val (.ref t2), .val (.int (1 : Int32)), .val (.int (own_teq (own_cs l1 n0_ n1_) (own_cs l3 q0_ q1_) (own_cs l2 m0_ m1_) (own_cs l4 r0_ r1_))), .val (.int (1 : Int32))] [(.int (own_teq (own_cs l2 m0_ m1_) (own_cs l4 r0_ r1_) (own_cs l1 n0_ n1_) (own_cs l3 q0_ q1_)))])) _
          refine XS.iload X205.here hx rfl (hb hby at_413) rfl ?_
          show Steps p.tables e below (T205.setTop (mkF m 415 #[.val (.int p1), .val (.int p2), .val (.int p3), .val (.int p4), .val (.int p5), .val (.int l1), .val (.int l2), .val (.int l3), .val (.int l4), .val (.int s1), .val (.int s2), .val (.int kd), .val (.int n0_), .val (.int n1_), .val (.int m0_), .val (.int m1_), .val (.int q0_), .val (.int q1_), .val (.int r0_), .val (.int r1_), .val (.ref x0), .val (.ref x1), .val (.ref x2), .val (.ref x3), .val (.ref t1), .val (.int (own_teq (own_cs l1 n0_ n1_) (own_cs l3 q0_ q1_) (own_cs l1 n0_ n1_) (own_cs l3 q0_ q1_))), .val (.ref t2), .val (.int (1 : Int32)), .val (.int (own_teq (own_cs l1 n0_ n1_) (own_cs l3 q0_ q1_) (own_cs l2 m0_ m1_) (own_cs l4 r0_ r1_))), .val (.int (1 : Int32))] [(.int (own_teq (own_cs l1 n0_ n1_) (own_cs l3 q0_ q1_) (own_cs l2 m0_ m1_) (own_cs l4 r0_ r1_))), (.int (own_teq (own_cs l2 m0_ m1_) (own_cs l4 r0_ r1_) (own_cs l1 n0_ n1_) (own_cs l3 q0_ q1_)))])) _
          refine XS.icmpNo X205.here hx rfl (hb hby at_415) rfl (teq (own_teqc _ _ _ _)).2 ?_
          show Steps p.tables e below (T205.setTop (mkF m 418 #[.val (.int p1), .val (.int p2), .val (.int p3), .val (.int p4), .val (.int p5), .val (.int l1), .val (.int l2), .val (.int l3), .val (.int l4), .val (.int s1), .val (.int s2), .val (.int kd), .val (.int n0_), .val (.int n1_), .val (.int m0_), .val (.int m1_), .val (.int q0_), .val (.int q1_), .val (.int r0_), .val (.int r1_), .val (.ref x0), .val (.ref x1), .val (.ref x2), .val (.ref x3), .val (.ref t1), .val (.int (own_teq (own_cs l1 n0_ n1_) (own_cs l3 q0_ q1_) (own_cs l1 n0_ n1_) (own_cs l3 q0_ q1_))), .val (.ref t2), .val (.int (1 : Int32)), .val (.int (own_teq (own_cs l1 n0_ n1_) (own_cs l3 q0_ q1_) (own_cs l2 m0_ m1_) (own_cs l4 r0_ r1_))), .val (.int (1 : Int32))] [])) _
          refine XS.iconst X205.here hx rfl (hb hby at_418) ?_
          show Steps p.tables e below (T205.setTop (mkF m 419 #[.val (.int p1), .val (.int p2), .val (.int p3), .val (.int p4), .val (.int p5), .val (.int l1), .val (.int l2), .val (.int l3), .val (.int l4), .val (.int s1), .val (.int s2), .val (.int kd), .val (.int n0_), .val (.int n1_), .val (.int m0_), .val (.int m1_), .val (.int q0_), .val (.int q1_), .val (.int r0_), .val (.int r1_), .val (.ref x0), .val (.ref x1), .val (.ref x2), .val (.ref x3), .val (.ref t1), .val (.int (own_teq (own_cs l1 n0_ n1_) (own_cs l3 q0_ q1_) (own_cs l1 n0_ n1_) (own_cs l3 q0_ q1_))), .val (.ref t2), .val (.int (1 : Int32)), .val (.int (own_teq (own_cs l1 n0_ n1_) (own_cs l3 q0_ q1_) (own_cs l2 m0_ m1_) (own_cs l4 r0_ r1_))), .val (.int (1 : Int32))] [(.int (1 : Int32))])) _
          refine XS.goto X205.here hx rfl (pc0 := 419) (pc' := 423) rfl (hb hby at_419) (by decide) (by decide) ?_
          show Steps p.tables e below (T205.setTop (mkF m 423 #[.val (.int p1), .val (.int p2), .val (.int p3), .val (.int p4), .val (.int p5), .val (.int l1), .val (.int l2), .val (.int l3), .val (.int l4), .val (.int s1), .val (.int s2), .val (.int kd), .val (.int n0_), .val (.int n1_), .val (.int m0_), .val (.int m1_), .val (.int q0_), .val (.int q1_), .val (.int r0_), .val (.int r1_), .val (.ref x0), .val (.ref x1), .val (.ref x2), .val (.ref x3), .val (.ref t1), .val (.int (own_teq (own_cs l1 n0_ n1_) (own_cs l3 q0_ q1_) (own_cs l1 n0_ n1_) (own_cs l3 q0_ q1_))), .val (.ref t2), .val (.int (1 : Int32)), .val (.int (own_teq (own_cs l1 n0_ n1_) (own_cs l3 q0_ q1_) (own_cs l2 m0_ m1_) (own_cs l4 r0_ r1_))), .val (.int (1 : Int32))] [(.int (1 : Int32))])) _
          refine XS.istore X205.here hx rfl (hb hby at_423) rfl (l' := #[.val (.int p1), .val (.int p2), .val (.int p3), .val (.int p4), .val (.int p5), .val (.int l1), .val (.int l2), .val (.int l3), .val (.int l4), .val (.int s1), .val (.int s2), .val (.int kd), .val (.int n0_), .val (.int n1_), .val (.int m0_), .val (.int m1_), .val (.int q0_), .val (.int q1_), .val (.int r0_), .val (.int r1_), .val (.ref x0), .val (.ref x1), .val (.ref x2), .val (.ref x3), .val (.ref t1), .val (.int (own_teq (own_cs l1 n0_ n1_) (own_cs l3 q0_ q1_) (own_cs l1 n0_ n1_) (own_cs l3 q0_ q1_))), .val (.ref t2), .val (.int (1 : Int32)), .val (.int (own_teq (own_cs l1 n0_ n1_) (own_cs l3 q0_ q1_) (own_cs l2 m0_ m1_) (own_cs l4 r0_ r1_))), .val (.int (1 : Int32))]) rfl ?_
          show Steps p.tables e below (T205.setTop (mkF m 425 #[.val (.int p1), .val (.int p2), .val (.int p3), .val (.int p4), .val (.int p5), .val (.int l1), .val (.int l2), .val (.int l3), .val (.int l4), .val (.int s1), .val (.int s2), .val (.int kd), .val (.int n0_), .val (.int n1_), .val (.int m0_), .val (.int m1_), .val (.int q0_), .val (.int q1_), .val (.int r0_), .val (.int r1_), .val (.ref x0), .val (.ref x1), .val (.ref x2), .val (.ref x3), .val (.ref t1), .val (.int (own_teq (own_cs l1 n0_ n1_) (own_cs l3 q0_ q1_) (own_cs l1 n0_ n1_) (own_cs l3 q0_ q1_))), .val (.ref t2), .val (.int (1 : Int32)), .val (.int (own_teq (own_cs l1 n0_ n1_) (own_cs l3 q0_ q1_) (own_cs l2 m0_ m1_) (own_cs l4 r0_ r1_))), .val (.int (1 : Int32))] [])) _
          refine XS.iload X205.here hx rfl (hb hby at_425) rfl ?_
          show Steps p.tables e below (T205.setTop (mkF m 427 #[.val (.int p1), .val (.int p2), .val (.int p3), .val (.int p4), .val (.int p5), .val (.int l1), .val (.int l2), .val (.int l3), .val (.int l4), .val (.int s1), .val (.int s2), .val (.int kd), .val (.int n0_), .val (.int n1_), .val (.int m0_), .val (.int m1_), .val (.int q0_), .val (.int q1_), .val (.int r0_), .val (.int r1_), .val (.ref x0), .val (.ref x1), .val (.ref x2), .val (.ref x3), .val (.ref t1), .val (.int (own_teq (own_cs l1 n0_ n1_) (own_cs l3 q0_ q1_) (own_cs l1 n0_ n1_) (own_cs l3 q0_ q1_))), .val (.ref t2), .val (.int (1 : Int32)), .val (.int (own_teq (own_cs l1 n0_ n1_) (own_cs l3 q0_ q1_) (own_cs l2 m0_ m1_) (own_cs l4 r0_ r1_))), .val (.int (1 : Int32))] [(.int (own_teq (own_cs l1 n0_ n1_) (own_cs l3 q0_ q1_) (own_cs l1 n0_ n1_) (own_cs l3 q0_ q1_)))])) _
          refine XS.ifNo X205.here hx rfl (hb hby at_427) rfl ((if0 _ _).trans (feq (by rw [own_teqs]; decide)).1) ?_
          show Steps p.tables e below (T205.setTop (mkF m 430 #[.val (.int p1), .val (.int p2), .val (.int p3), .val (.int p4), .val (.int p5), .val (.int l1), .val (.int l2), .val (.int l3), .val (.int l4), .val (.int s1), .val (.int s2), .val (.int kd), .val (.int n0_), .val (.int n1_), .val (.int m0_), .val (.int m1_), .val (.int q0_), .val (.int q1_), .val (.int r0_), .val (.int r1_), .val (.ref x0), .val (.ref x1), .val (.ref x2), .val (.ref x3), .val (.ref t1), .val (.int (own_teq (own_cs l1 n0_ n1_) (own_cs l3 q0_ q1_) (own_cs l1 n0_ n1_) (own_cs l3 q0_ q1_))), .val (.ref t2), .val (.int (1 : Int32)), .val (.int (own_teq (own_cs l1 n0_ n1_) (own_cs l3 q0_ q1_) (own_cs l2 m0_ m1_) (own_cs l4 r0_ r1_))), .val (.int (1 : Int32))] [])) _
          refine XS.iload X205.here hx rfl (hb hby at_430) rfl ?_
          show Steps p.tables e below (T205.setTop (mkF m 432 #[.val (.int p1), .val (.int p2), .val (.int p3), .val (.int p4), .val (.int p5), .val (.int l1), .val (.int l2), .val (.int l3), .val (.int l4), .val (.int s1), .val (.int s2), .val (.int kd), .val (.int n0_), .val (.int n1_), .val (.int m0_), .val (.int m1_), .val (.int q0_), .val (.int q1_), .val (.int r0_), .val (.int r1_), .val (.ref x0), .val (.ref x1), .val (.ref x2), .val (.ref x3), .val (.ref t1), .val (.int (own_teq (own_cs l1 n0_ n1_) (own_cs l3 q0_ q1_) (own_cs l1 n0_ n1_) (own_cs l3 q0_ q1_))), .val (.ref t2), .val (.int (1 : Int32)), .val (.int (own_teq (own_cs l1 n0_ n1_) (own_cs l3 q0_ q1_) (own_cs l2 m0_ m1_) (own_cs l4 r0_ r1_))), .val (.int (1 : Int32))] [(.int (own_teq (own_cs l1 n0_ n1_) (own_cs l3 q0_ q1_) (own_cs l2 m0_ m1_) (own_cs l4 r0_ r1_)))])) _
          refine XS.iload X205.here hx rfl (hb hby at_432) rfl ?_
          show Steps p.tables e below (T205.setTop (mkF m 434 #[.val (.int p1), .val (.int p2), .val (.int p3), .val (.int p4), .val (.int p5), .val (.int l1), .val (.int l2), .val (.int l3), .val (.int l4), .val (.int s1), .val (.int s2), .val (.int kd), .val (.int n0_), .val (.int n1_), .val (.int m0_), .val (.int m1_), .val (.int q0_), .val (.int q1_), .val (.int r0_), .val (.int r1_), .val (.ref x0), .val (.ref x1), .val (.ref x2), .val (.ref x3), .val (.ref t1), .val (.int (own_teq (own_cs l1 n0_ n1_) (own_cs l3 q0_ q1_) (own_cs l1 n0_ n1_) (own_cs l3 q0_ q1_))), .val (.ref t2), .val (.int (1 : Int32)), .val (.int (own_teq (own_cs l1 n0_ n1_) (own_cs l3 q0_ q1_) (own_cs l2 m0_ m1_) (own_cs l4 r0_ r1_))), .val (.int (1 : Int32))] [(.int (1 : Int32)), (.int (own_teq (own_cs l1 n0_ n1_) (own_cs l3 q0_ q1_) (own_cs l2 m0_ m1_) (own_cs l4 r0_ r1_)))])) _
          refine XS.icmpNo X205.here hx rfl (hb hby at_434) rfl (teq (by rw [own_teq, if_pos hA, if_pos hB])).2 ?_
          show Steps p.tables e below (T205.setTop (mkF m 437 #[.val (.int p1), .val (.int p2), .val (.int p3), .val (.int p4), .val (.int p5), .val (.int l1), .val (.int l2), .val (.int l3), .val (.int l4), .val (.int s1), .val (.int s2), .val (.int kd), .val (.int n0_), .val (.int n1_), .val (.int m0_), .val (.int m1_), .val (.int q0_), .val (.int q1_), .val (.int r0_), .val (.int r1_), .val (.ref x0), .val (.ref x1), .val (.ref x2), .val (.ref x3), .val (.ref t1), .val (.int (own_teq (own_cs l1 n0_ n1_) (own_cs l3 q0_ q1_) (own_cs l1 n0_ n1_) (own_cs l3 q0_ q1_))), .val (.ref t2), .val (.int (1 : Int32)), .val (.int (own_teq (own_cs l1 n0_ n1_) (own_cs l3 q0_ q1_) (own_cs l2 m0_ m1_) (own_cs l4 r0_ r1_))), .val (.int (1 : Int32))] [])) _
          refine XS.iload X205.here hx rfl (hb hby at_437) rfl ?_
          show Steps p.tables e below (T205.setTop (mkF m 439 #[.val (.int p1), .val (.int p2), .val (.int p3), .val (.int p4), .val (.int p5), .val (.int l1), .val (.int l2), .val (.int l3), .val (.int l4), .val (.int s1), .val (.int s2), .val (.int kd), .val (.int n0_), .val (.int n1_), .val (.int m0_), .val (.int m1_), .val (.int q0_), .val (.int q1_), .val (.int r0_), .val (.int r1_), .val (.ref x0), .val (.ref x1), .val (.ref x2), .val (.ref x3), .val (.ref t1), .val (.int (own_teq (own_cs l1 n0_ n1_) (own_cs l3 q0_ q1_) (own_cs l1 n0_ n1_) (own_cs l3 q0_ q1_))), .val (.ref t2), .val (.int (1 : Int32)), .val (.int (own_teq (own_cs l1 n0_ n1_) (own_cs l3 q0_ q1_) (own_cs l2 m0_ m1_) (own_cs l4 r0_ r1_))), .val (.int (1 : Int32))] [(.int (1 : Int32))])) _
          refine XS.ifNo X205.here hx rfl (hb hby at_439) rfl ((if0 _ _).trans (feq (by decide : ¬ (1 : Int32) = 0)).1) ?_
          show Steps p.tables e below (T205.setTop (mkF m 442 #[.val (.int p1), .val (.int p2), .val (.int p3), .val (.int p4), .val (.int p5), .val (.int l1), .val (.int l2), .val (.int l3), .val (.int l4), .val (.int s1), .val (.int s2), .val (.int kd), .val (.int n0_), .val (.int n1_), .val (.int m0_), .val (.int m1_), .val (.int q0_), .val (.int q1_), .val (.int r0_), .val (.int r1_), .val (.ref x0), .val (.ref x1), .val (.ref x2), .val (.ref x3), .val (.ref t1), .val (.int (own_teq (own_cs l1 n0_ n1_) (own_cs l3 q0_ q1_) (own_cs l1 n0_ n1_) (own_cs l3 q0_ q1_))), .val (.ref t2), .val (.int (1 : Int32)), .val (.int (own_teq (own_cs l1 n0_ n1_) (own_cs l3 q0_ q1_) (own_cs l2 m0_ m1_) (own_cs l4 r0_ r1_))), .val (.int (1 : Int32))] [])) _
          refine XS.iconst X205.here hx rfl (hb hby at_442) ?_
          show Steps p.tables e below (T205.setTop (mkF m 443 #[.val (.int p1), .val (.int p2), .val (.int p3), .val (.int p4), .val (.int p5), .val (.int l1), .val (.int l2), .val (.int l3), .val (.int l4), .val (.int s1), .val (.int s2), .val (.int kd), .val (.int n0_), .val (.int n1_), .val (.int m0_), .val (.int m1_), .val (.int q0_), .val (.int q1_), .val (.int r0_), .val (.int r1_), .val (.ref x0), .val (.ref x1), .val (.ref x2), .val (.ref x3), .val (.ref t1), .val (.int (own_teq (own_cs l1 n0_ n1_) (own_cs l3 q0_ q1_) (own_cs l1 n0_ n1_) (own_cs l3 q0_ q1_))), .val (.ref t2), .val (.int (1 : Int32)), .val (.int (own_teq (own_cs l1 n0_ n1_) (own_cs l3 q0_ q1_) (own_cs l2 m0_ m1_) (own_cs l4 r0_ r1_))), .val (.int (1 : Int32))] [(.int (1 : Int32))])) _
          refine XS.goto X205.here hx rfl (pc0 := 443) (pc' := 447) rfl (hb hby at_443) (by decide) (by decide) ?_
          exact k_)
        obtain ⟨fs, hr, hrun, hended, hWr, hW1, hW2, hsame⟩ := Jvm.Stand.leaveW (s := s) X205 hS188' (by rw [e205]; exact (Nat.le_refl _)) (v := some (.int (1 : Int32))) (fun h => by rw [Bd.returns] at h; cases h)
        refine ⟨_, _, pre206 _ ?_, hrun, hended, _, _, rfl, ?_, hWr, hW1, hW2, hsame.mono (by decide) (by decide)⟩
        · show Steps p.tables e below (T205.setTop (mkF m 447 #[.val (.int p1), .val (.int p2), .val (.int p3), .val (.int p4), .val (.int p5), .val (.int l1), .val (.int l2), .val (.int l3), .val (.int l4), .val (.int s1), .val (.int s2), .val (.int kd), .val (.int n0_), .val (.int n1_), .val (.int m0_), .val (.int m1_), .val (.int q0_), .val (.int q1_), .val (.int r0_), .val (.int r1_), .val (.ref x0), .val (.ref x1), .val (.ref x2), .val (.ref x3), .val (.ref t1), .val (.int (own_teq (own_cs l1 n0_ n1_) (own_cs l3 q0_ q1_) (own_cs l1 n0_ n1_) (own_cs l3 q0_ q1_))), .val (.ref t2), .val (.int (1 : Int32)), .val (.int (own_teq (own_cs l1 n0_ n1_) (own_cs l3 q0_ q1_) (own_cs l2 m0_ m1_) (own_cs l4 r0_ r1_))), .val (.int (1 : Int32))] [(.int (1 : Int32))])) _
          exact retN X205 hx (t := .boolean) Bd.returns (by simp) (hb hby at_447) hr
        · show Qrm0 Z p1 p2 p3 p4 p5 zc h0 n0 _ T205.heap _
          rw [e205]
          exact ⟨rfl, N205⟩
      · skip
        obtain ⟨cq207, kq207, q207a, q207b, q207c⟩ := isOf hZ188 e202 E_t1_194
        obtain ⟨_, _, ⟨T207, L207, k207, n207⟩, -, X207, ⟨Lc207, hQ207, l207, y207, z207⟩, st207⟩ := X202.virtualBack hx (y := (⟨"com/example/cranfield/cranfield/model/Topic", "equals", "(Ljava/lang/Object;)Z"⟩ : MethodName)) (z := (⟨"com/example/cranfield/cranfield/model/Topic", "equals", "(Ljava/lang/Object;)Z"⟩ : MethodName)) hown188 (mvT hZ188 (hw _ (List.mem_of_getElem? (i := 44) rfl))) (mvT hZ188 (hw _ (List.mem_of_getElem? (i := 45) rfl))) (notFace_of_selects (args := #[]) (mvT hZ188 (hw _ (List.mem_of_getElem? (i := 47) rfl)))) (mvT hZ188 (hw _ (List.mem_of_getElem? (i := 47) rfl))) (mvT hZ188 (hw _ (List.mem_of_getElem? (i := 46) rfl))) (by decide) (backOf (W := 0) (rmE2 l Z a0 hw [] t1 t2 x0 x2 x1 x3 (own_cs l1 n0_ n1_) (own_cs l3 q0_ q1_) (own_cs l2 m0_ m1_) (own_cs l4 r0_ r1_) zc T188.heap n0 Z198 E188 F0_t1_195 F1_t1_196 F0188 F1188 T_189 T_191 T_190 T_192 (S_c.ext O_199.2) hzc) hZ188 (hw _ (List.mem_of_getElem? (i := 48) rfl)) (hw _ (List.mem_of_getElem? (i := 28) rfl)) (by decide) (by decide)) q207a q207c (g := (mkF m 392 #[.val (.int p1), .val (.int p2), .val (.int p3), .val (.int p4), .val (.int p5), .val (.int l1), .val (.int l2), .val (.int l3), .val (.int l4), .val (.int s1), .val (.int s2), .val (.int kd), .val (.int n0_), .val (.int n1_), .val (.int m0_), .val (.int m1_), .val (.int q0_), .val (.int q1_), .val (.int r0_), .val (.int r1_), .val (.ref x0), .val (.ref x1), .val (.ref x2), .val (.ref x3), .val (.ref t1), .val (.int (own_teq (own_cs l1 n0_ n1_) (own_cs l3 q0_ q1_) (own_cs l1 n0_ n1_) (own_cs l3 q0_ q1_))), .val (.ref t2), .val (.int (0 : Int32)), .unset, .unset] [(.ref t2), (.ref t1)])) rfl (by rw [hml]; rfl) (Steps.refl _) (argsL := [(.ref t2)]) (rest := []) (lenOf pd_3 rfl) rfl (by show 2 * 0 + _ ≤ _; exact Nat.le_of_eq rfl) (hb hby at_392) (fun _ _ => ⟨rfl, e202, (by decide : 34 + 0 ≤ _), (by decide : 156 + 0 ≤ _)⟩)
        dsimp only [Pt.U, Pt.locs, Pt.cells, Pt.slots] at X207 l207 y207 z207 st207 hQ207
        subst l207 y207 z207
        obtain ⟨rfl, N207q, e207⟩ := hQ207
        have N207 := Fr.app N202 N207q
        obtain ⟨cq208, kq208, q208a, q208b, q208c⟩ := isOf hZ188 e207 E188
        obtain ⟨_, _, ⟨T208, L208, k208, n208⟩, -, X208, ⟨Lc208, hQ208, l208, y208, z208⟩, st208⟩ := X207.virtualBack hx (y := (⟨"java/lang/Object", "equals", "(Ljava/lang/Object;)Z"⟩ : MethodName)) (z := (⟨"com/example/cranfield/cranfield/model/Topic", "equals", "(Ljava/lang/Object;)Z"⟩ : MethodName)) hown188 (mvT hZ188 (hw _ (List.mem_of_getElem? (i := 65) rfl))) (mvT hZ188 (hw _ (List.mem_of_getElem? (i := 66) rfl))) (nf_top (args := #[]) (mvT hZ188 (hw _ (List.mem_of_getElem? (i := 80) rfl)))) (mvT hZ188 (hw _ (List.mem_of_getElem? (i := 68) rfl))) (mvT hZ188 (hw _ (List.mem_of_getElem? (i := 46) rfl))) (by decide) (backOf (W := 0) (rmE2 l Z a0 hw [] t2 t1 x1 x3 x0 x2 (own_cs l2 m0_ m1_) (own_cs l4 r0_ r1_) (own_cs l1 n0_ n1_) (own_cs l3 q0_ q1_) zc T188.heap n0 Z198 E_t1_194 F0188 F1188 F0_t1_195 F1_t1_196 T_190 T_192 T_189 T_191 (S_c.ext O_199.2) hzc) hZ188 (hw _ (List.mem_of_getElem? (i := 48) rfl)) (hw _ (List.mem_of_getElem? (i := 28) rfl)) (by decide) (by decide)) q208a q208c (g := (mkF m 410 #[.val (.int p1), .val (.int p2), .val (.int p3), .val (.int p4), .val (.int p5), .val (.int l1), .val (.int l2), .val (.int l3), .val (.int l4), .val (.int s1), .val (.int s2), .val (.int kd), .val (.int n0_), .val (.int n1_), .val (.int m0_), .val (.int m1_), .val (.int q0_), .val (.int q1_), .val (.int r0_), .val (.int r1_), .val (.ref x0), .val (.ref x1), .val (.ref x2), .val (.ref x3), .val (.ref t1), .val (.int (own_teq (own_cs l1 n0_ n1_) (own_cs l3 q0_ q1_) (own_cs l1 n0_ n1_) (own_cs l3 q0_ q1_))), .val (.ref t2), .val (.int (0 : Int32)), .val (.int (own_teq (own_cs l1 n0_ n1_) (own_cs l3 q0_ q1_) (own_cs l2 m0_ m1_) (own_cs l4 r0_ r1_))), .val (.int (1 : Int32))] [(.ref t1), (.ref t2)])) rfl (by rw [hml]; rfl) (Steps.refl _) (argsL := [(.ref t1)]) (rest := []) (lenOf pd_3 rfl) rfl (by show 2 * 0 + _ ≤ _; exact Nat.le_of_eq rfl) (hb hby at_410) (fun _ _ => ⟨rfl, e207, (by decide : 34 + 0 ≤ _), (by decide : 156 + 0 ≤ _)⟩)
        dsimp only [Pt.U, Pt.locs, Pt.cells, Pt.slots] at X208 l208 y208 z208 st208 hQ208
        subst l208 y208 z208
        obtain ⟨rfl, N208q, e208⟩ := hQ208
        have N208 := Fr.app N207 N208q
        have pre209 : ∀ t_, Steps p.tables e below (T208.setTop (mkF m 447 #[.val (.int p1), .val (.int p2), .val (.int p3), .val (.int p4), .val (.int p5), .val (.int l1), .val (.int l2), .val (.int l3), .val (.int l4), .val (.int s1), .val (.int s2), .val (.int kd), .val (.int n0_), .val (.int n1_), .val (.int m0_), .val (.int m1_), .val (.int q0_), .val (.int q1_), .val (.int r0_), .val (.int r1_), .val (.ref x0), .val (.ref x1), .val (.ref x2), .val (.ref x3), .val (.ref t1), .val (.int (own_teq (own_cs l1 n0_ n1_) (own_cs l3 q0_ q1_) (own_cs l1 n0_ n1_) (own_cs l3 q0_ q1_))), .val (.ref t2), .val (.int (0 : Int32)), .val (.int (own_teq (own_cs l1 n0_ n1_) (own_cs l3 q0_ q1_) (own_cs l2 m0_ m1_) (own_cs l4 r0_ r1_))), .val (.int (1 : Int32))] [(.int (1 : Int32))])) t_ → Steps p.tables e below (s₁.setTop (entryFrame m #[(.int p1), (.int p2), (.int p3), (.int p4), (.int p5)] maxLocals)) t_ := fun t_ k_ => pre203 _ (by
          show Steps p.tables e below (T202.setTop (mkF m 378 #[.val (.int p1), .val (.int p2), .val (.int p3), .val (.int p4), .val (.int p5), .val (.int l1), .val (.int l2), .val (.int l3), .val (.int l4), .val (.int s1), .val (.int s2), .val (.int kd), .val (.int n0_), .val (.int n1_), .val (.int m0_), .val (.int m1_), .val (.int q0_), .val (.int q1_), .val (.int r0_), .val (.int r1_), .val (.ref x0), .val (.ref x1), .val (.ref x2), .val (.ref x3), .val (.ref t1), .val (.int (own_teq (own_cs l1 n0_ n1_) (own_cs l3 q0_ q1_) (own_cs l1 n0_ n1_) (own_cs l3 q0_ q1_))), .val (.ref t2), .unset, .unset, .unset] [(.int (if own_cs l3 q0_ q1_ = own_cs l4 r0_ r1_ then (1 : Int32) else 0))])) _
          refine XS.ifYes X202.here hx rfl (pc0 := 378) (pc' := 385) rfl (hb hby at_378) rfl ((if0 _ _).trans (teq (by rw [if_neg hB])).1) (by decide) (by decide) ?_
          show Steps p.tables e below (T202.setTop (mkF m 385 #[.val (.int p1), .val (.int p2), .val (.int p3), .val (.int p4), .val (.int p5), .val (.int l1), .val (.int l2), .val (.int l3), .val (.int l4), .val (.int s1), .val (.int s2), .val (.int kd), .val (.int n0_), .val (.int n1_), .val (.int m0_), .val (.int m1_), .val (.int q0_), .val (.int q1_), .val (.int r0_), .val (.int r1_), .val (.ref x0), .val (.ref x1), .val (.ref x2), .val (.ref x3), .val (.ref t1), .val (.int (own_teq (own_cs l1 n0_ n1_) (own_cs l3 q0_ q1_) (own_cs l1 n0_ n1_) (own_cs l3 q0_ q1_))), .val (.ref t2), .unset, .unset, .unset] [])) _
          refine XS.iconst X202.here hx rfl (hb hby at_385) ?_
          show Steps p.tables e below (T202.setTop (mkF m 386 #[.val (.int p1), .val (.int p2), .val (.int p3), .val (.int p4), .val (.int p5), .val (.int l1), .val (.int l2), .val (.int l3), .val (.int l4), .val (.int s1), .val (.int s2), .val (.int kd), .val (.int n0_), .val (.int n1_), .val (.int m0_), .val (.int m1_), .val (.int q0_), .val (.int q1_), .val (.int r0_), .val (.int r1_), .val (.ref x0), .val (.ref x1), .val (.ref x2), .val (.ref x3), .val (.ref t1), .val (.int (own_teq (own_cs l1 n0_ n1_) (own_cs l3 q0_ q1_) (own_cs l1 n0_ n1_) (own_cs l3 q0_ q1_))), .val (.ref t2), .unset, .unset, .unset] [(.int (0 : Int32))])) _
          refine XS.istore X202.here hx rfl (hb hby at_386) rfl (l' := #[.val (.int p1), .val (.int p2), .val (.int p3), .val (.int p4), .val (.int p5), .val (.int l1), .val (.int l2), .val (.int l3), .val (.int l4), .val (.int s1), .val (.int s2), .val (.int kd), .val (.int n0_), .val (.int n1_), .val (.int m0_), .val (.int m1_), .val (.int q0_), .val (.int q1_), .val (.int r0_), .val (.int r1_), .val (.ref x0), .val (.ref x1), .val (.ref x2), .val (.ref x3), .val (.ref t1), .val (.int (own_teq (own_cs l1 n0_ n1_) (own_cs l3 q0_ q1_) (own_cs l1 n0_ n1_) (own_cs l3 q0_ q1_))), .val (.ref t2), .val (.int (0 : Int32)), .unset, .unset]) rfl ?_
          show Steps p.tables e below (T202.setTop (mkF m 388 #[.val (.int p1), .val (.int p2), .val (.int p3), .val (.int p4), .val (.int p5), .val (.int l1), .val (.int l2), .val (.int l3), .val (.int l4), .val (.int s1), .val (.int s2), .val (.int kd), .val (.int n0_), .val (.int n1_), .val (.int m0_), .val (.int m1_), .val (.int q0_), .val (.int q1_), .val (.int r0_), .val (.int r1_), .val (.ref x0), .val (.ref x1), .val (.ref x2), .val (.ref x3), .val (.ref t1), .val (.int (own_teq (own_cs l1 n0_ n1_) (own_cs l3 q0_ q1_) (own_cs l1 n0_ n1_) (own_cs l3 q0_ q1_))), .val (.ref t2), .val (.int (0 : Int32)), .unset, .unset] [])) _
          refine XS.aload X202.here hx rfl (hb hby at_388) rfl rfl ?_
          show Steps p.tables e below (T202.setTop (mkF m 390 #[.val (.int p1), .val (.int p2), .val (.int p3), .val (.int p4), .val (.int p5), .val (.int l1), .val (.int l2), .val (.int l3), .val (.int l4), .val (.int s1), .val (.int s2), .val (.int kd), .val (.int n0_), .val (.int n1_), .val (.int m0_), .val (.int m1_), .val (.int q0_), .val (.int q1_), .val (.int r0_), .val (.int r1_), .val (.ref x0), .val (.ref x1), .val (.ref x2), .val (.ref x3), .val (.ref t1), .val (.int (own_teq (own_cs l1 n0_ n1_) (own_cs l3 q0_ q1_) (own_cs l1 n0_ n1_) (own_cs l3 q0_ q1_))), .val (.ref t2), .val (.int (0 : Int32)), .unset, .unset] [(.ref t1)])) _
          refine XS.aload X202.here hx rfl (hb hby at_390) rfl rfl ?_
          show Steps p.tables e below (T202.setTop (mkF m 392 #[.val (.int p1), .val (.int p2), .val (.int p3), .val (.int p4), .val (.int p5), .val (.int l1), .val (.int l2), .val (.int l3), .val (.int l4), .val (.int s1), .val (.int s2), .val (.int kd), .val (.int n0_), .val (.int n1_), .val (.int m0_), .val (.int m1_), .val (.int q0_), .val (.int q1_), .val (.int r0_), .val (.int r1_), .val (.ref x0), .val (.ref x1), .val (.ref x2), .val (.ref x3), .val (.ref t1), .val (.int (own_teq (own_cs l1 n0_ n1_) (own_cs l3 q0_ q1_) (own_cs l1 n0_ n1_) (own_cs l3 q0_ q1_))), .val (.ref t2), .val (.int (0 : Int32)), .unset, .unset] [(.ref t2), (.ref t1)])) _
          refine st207.trans ?_
          show Steps p.tables e below (T207.setTop (mkF m 395 #[.val (.int p1), .val (.int p2), .val (.int p3), .val (.int p4), .val (.int p5), .val (.int l1), .val (.int l2), .val (.int l3), .val (.int l4), .val (.int s1), .val (.int s2), .val (.int kd), .val (.int n0_), .val (.int n1_), .val (.int m0_), .val (.int m1_), .val (.int q0_), .val (.int q1_), .val (.int r0_), .val (.int r1_), .val (.ref x0), .val (.ref x1), .val (.ref x2), .val (.ref x3), .val (.ref t1), .val (.int (own_teq (own_cs l1 n0_ n1_) (own_cs l3 q0_ q1_) (own_cs l1 n0_ n1_) (own_cs l3 q0_ q1_))), .val (.ref t2), .val (.int (0 : Int32)), .unset, .unset] [(.int (own_teq (own_cs l1 n0_ n1_) (own_cs l3 q0_ q1_) (own_cs l2 m0_ m1_) (own_cs l4 r0_ r1_)))])) _
          refine XS.istore X207.here hx rfl (hb hby at_395) rfl (l' := #[.val (.int p1), .val (.int p2), .val (.int p3), .val (.int p4), .val (.int p5), .val (.int l1), .val (.int l2), .val (.int l3), .val (.int l4), .val (.int s1), .val (.int s2), .val (.int kd), .val (.int n0_), .val (.int n1_), .val (.int m0_), .val (.int m1_), .val (.int q0_), .val (.int q1_), .val (.int r0_), .val (.int r1_), .val (.ref x0), .val (.ref x1), .val (.ref x2), .val (.ref x3), .val (.ref t1), .val (.int (own_teq (own_cs l1 n0_ n1_) (own_cs l3 q0_ q1_) (own_cs l1 n0_ n1_) (own_cs l3 q0_ q1_))), .val (.ref t2), .val (.int (0 : Int32)), .val (.int (own_teq (own_cs l1 n0_ n1_) (own_cs l3 q0_ q1_) (own_cs l2 m0_ m1_) (own_cs l4 r0_ r1_))), .unset]) rfl ?_
          show Steps p.tables e below (T207.setTop (mkF m 397 #[.val (.int p1), .val (.int p2), .val (.int p3), .val (.int p4), .val (.int p5), .val (.int l1), .val (.int l2), .val (.int l3), .val (.int l4), .val (.int s1), .val (.int s2), .val (.int kd), .val (.int n0_), .val (.int n1_), .val (.int m0_), .val (.int m1_), .val (.int q0_), .val (.int q1_), .val (.int r0_), .val (.int r1_), .val (.ref x0), .val (.ref x1), .val (.ref x2), .val (.ref x3), .val (.ref t1), .val (.int (own_teq (own_cs l1 n0_ n1_) (own_cs l3 q0_ q1_) (own_cs l1 n0_ n1_) (own_cs l3 q0_ q1_))), .val (.ref t2), .val (.int (0 : Int32)), .val (.int (own_teq (own_cs l1 n0_ n1_) (own_cs l3 q0_ q1_) (own_cs l2 m0_ m1_) (own_cs l4 r0_ r1_))), .unset] [])) _
          refine XS.iconst X207.here hx rfl (hb hby at_397) ?_
          show Steps p.tables e below (T207.setTop (mkF m 398 #[.val (.int p1), .val (.int p2), .val (.int p3), .val (.int p4), .val (.int p5), .val (.int l1), .val (.int l2), .val (.int l3), .val (.int l4), .val (.int s1), .val (.int s2), .val (.int kd), .val (.int n0_), .val (.int n1_), .val (.int m0_), .val (.int m1_), .val (.int q0_), .val (.int q1_), .val (.int r0_), .val (.int r1_), .val (.ref x0), .val (.ref x1), .val (.ref x2), .val (.ref x3), .val (.ref t1), .val (.int (own_teq (own_cs l1 n0_ n1_) (own_cs l3 q0_ q1_) (own_cs l1 n0_ n1_) (own_cs l3 q0_ q1_))), .val (.ref t2), .val (.int (0 : Int32)), .val (.int (own_teq (own_cs l1 n0_ n1_) (own_cs l3 q0_ q1_) (own_cs l2 m0_ m1_) (own_cs l4 r0_ r1_))), .unset] [(.int (1 : Int32))])) _
          refine XS.istore X207.here hx rfl (hb hby at_398) rfl (l' := #[.val (.int p1), .val (.int p2), .val (.int p3), .val (.int p4), .val (.int p5), .val (.int l1), .val (.int l2), .val (.int l3), .val (.int l4), .val (.int s1), .val (.int s2), .val (.int kd), .val (.int n0_), .val (.int n1_), .val (.int m0_), .val (.int m1_), .val (.int q0_), .val (.int q1_), .val (.int r0_), .val (.int r1_), .val (.ref x0), .val (.ref x1), .val (.ref x2), .val (.ref x3), .val (.ref t1), .val (.int (own_teq (own_cs l1 n0_ n1_) (own_cs l3 q0_ q1_) (own_cs l1 n0_ n1_) (own_cs l3 q0_ q1_))), .val (.ref t2), .val (.int (0 : Int32)), .val (.int (own_teq (own_cs l1 n0_ n1_) (own_cs l3 q0_ q1_) (own_cs l2 m0_ m1_) (own_cs l4 r0_ r1_))), .val (.int (1 : Int32))]) rfl ?_
          show Steps p.tables e below (T207.setTop (mkF m 400 #[.val (.int p1), .val (.int p2), .val (.int p3), .val (.int p4), .val (.int p5), .val (.int l1), .val (.int l2), .val (.int l3), .val (.int l4), .val (.int s1), .val (.int s2), .val (.int kd), .val (.int n0_), .val (.int n1_), .val (.int m0_), .val (.int m1_), .val (.int q0_), .val (.int q1_), .val (.int r0_), .val (.int r1_), .val (.ref x0), .val (.ref x1), .val (.ref x2), .val (.ref x3), .val (.ref t1), .val (.int (own_teq (own_cs l1 n0_ n1_) (own_cs l3 q0_ q1_) (own_cs l1 n0_ n1_) (own_cs l3 q0_ q1_))), .val (.ref t2), .val (.int (0 : Int32)), .val (.int (own_teq (own_cs l1 n0_ n1_) (own_cs l3 q0_ q1_) (own_cs l2 m0_ m1_) (own_cs l4 r0_ r1_))), .val (.int (1 : Int32))] [])) _
          refine XS.iload X207.here hx rfl (hb hby at_400) rfl ?_
          show Steps p.tables e below (T207.setTop (mkF m 402 #[.val (.int p1), .val (.int p2), .val (.int p3), .val (.int p4), .val (.int p5), .val (.int l1), .val (.int l2), .val (.int l3), .val (.int l4), .val (.int s1), .val (.int s2), .val (.int kd), .val (.int n0_), .val (.int n1_), .val (.int m0_), .val (.int m1_), .val (.int q0_), .val (.int q1_), .val (.int r0_), .val (.int r1_), .val (.ref x0), .val (.ref x1), .val (.ref x2), .val (.ref x3), .val (.ref t1), .val (.int (own_teq (own_cs l1 n0_ n1_) (own_cs l3 q0_ q1_) (own_cs l1 n0_ n1_) (own_cs l3 q0_ q1_))), .val (.ref t2), .val (.int (0 : Int32)), .val (.int (own_teq (own_cs l1 n0_ n1_) (own_cs l3 q0_ q1_) (own_cs l2 m0_ m1_) (own_cs l4 r0_ r1_))), .val (.int (1 : Int32))] [(.int kd)])) _
          refine XS.iconst X207.here hx rfl (hb hby at_402) ?_
          show Steps p.tables e below (T207.setTop (mkF m 403 #[.val (.int p1), .val (.int p2), .val (.int p3), .val (.int p4), .val (.int p5), .val (.int l1), .val (.int l2), .val (.int l3), .val (.int l4), .val (.int s1), .val (.int s2), .val (.int kd), .val (.int n0_), .val (.int n1_), .val (.int m0_), .val (.int m1_), .val (.int q0_), .val (.int q1_), .val (.int r0_), .val (.int r1_), .val (.ref x0), .val (.ref x1), .val (.ref x2), .val (.ref x3), .val (.ref t1), .val (.int (own_teq (own_cs l1 n0_ n1_) (own_cs l3 q0_ q1_) (own_cs l1 n0_ n1_) (own_cs l3 q0_ q1_))), .val (.ref t2), .val (.int (0 : Int32)), .val (.int (own_teq (own_cs l1 n0_ n1_) (own_cs l3 q0_ q1_) (own_cs l2 m0_ m1_) (own_cs l4 r0_ r1_))), .val (.int (1 : Int32))] [(.int (2 : Int32)), (.int kd)])) _
          refine XS.icmpNo X207.here hx rfl (hb hby at_403) rfl (tlt (by rw [q]; decide)).2.1 ?_
          show Steps p.tables e below (T207.setTop (mkF m 406 #[.val (.int p1), .val (.int p2), .val (.int p3), .val (.int p4), .val (.int p5), .val (.int l1), .val (.int l2), .val (.int l3), .val (.int l4), .val (.int s1), .val (.int s2), .val (.int kd), .val (.int n0_), .val (.int n1_), .val (.int m0_), .val (.int m1_), .val (.int q0_), .val (.int q1_), .val (.int r0_), .val (.int r1_), .val (.ref x0), .val (.ref x1), .val (.ref x2), .val (.ref x3), .val (.ref t1), .val (.int (own_teq (own_cs l1 n0_ n1_) (own_cs l3 q0_ q1_) (own_cs l1 n0_ n1_) (own_cs l3 q0_ q1_))), .val (.ref t2), .val (.int (0 : Int32)), .val (.int (own_teq (own_cs l1 n0_ n1_) (own_cs l3 q0_ q1_) (own_cs l2 m0_ m1_) (own_cs l4 r0_ r1_))), .val (.int (1 : Int32))] [])) _
          refine XS.aload X207.here hx rfl (hb hby at_406) rfl rfl ?_
          show Steps p.tables e below (T207.setTop (mkF m 408 #[.val (.int p1), .val (.int p2), .val (.int p3), .val (.int p4), .val (.int p5), .val (.int l1), .val (.int l2), .val (.int l3), .val (.int l4), .val (.int s1), .val (.int s2), .val (.int kd), .val (.int n0_), .val (.int n1_), .val (.int m0_), .val (.int m1_), .val (.int q0_), .val (.int q1_), .val (.int r0_), .val (.int r1_), .val (.ref x0), .val (.ref x1), .val (.ref x2), .val (.ref x3), .val (.ref t1), .val (.int (own_teq (own_cs l1 n0_ n1_) (own_cs l3 q0_ q1_) (own_cs l1 n0_ n1_) (own_cs l3 q0_ q1_))), .val (.ref t2), .val (.int (0 : Int32)), .val (.int (own_teq (own_cs l1 n0_ n1_) (own_cs l3 q0_ q1_) (own_cs l2 m0_ m1_) (own_cs l4 r0_ r1_))), .val (.int (1 : Int32))] [(.ref t2)])) _
          refine XS.aload X207.here hx rfl (hb hby at_408) rfl rfl ?_
          show Steps p.tables e below (T207.setTop (mkF m 410 #[.val (.int p1), .val (.int p2), .val (.int p3), .val (.int p4), .val (.int p5), .val (.int l1), .val (.int l2), .val (.int l3), .val (.int l4), .val (.int s1), .val (.int s2), .val (.int kd), .val (.int n0_), .val (.int n1_), .val (.int m0_), .val (.int m1_), .val (.int q0_), .val (.int q1_), .val (.int r0_), .val (.int r1_), .val (.ref x0), .val (.ref x1), .val (.ref x2), .val (.ref x3), .val (.ref t1), .val (.int (own_teq (own_cs l1 n0_ n1_) (own_cs l3 q0_ q1_) (own_cs l1 n0_ n1_) (own_cs l3 q0_ q1_))), .val (.ref t2), .val (.int (0 : Int32)), .val (.int (own_teq (own_cs l1 n0_ n1_) (own_cs l3 q0_ q1_) (own_cs l2 m0_ m1_) (own_cs l4 r0_ r1_))), .val (.int (1 : Int32))] [(.ref t1), (.ref t2)])) _
          refine st208.trans ?_
          show Steps p.tables e below (T208.setTop (mkF m 413 #[.val (.int p1), .val (.int p2), .val (.int p3), .val (.int p4), .val (.int p5), .val (.int l1), .val (.int l2), .val (.int l3), .val (.int l4), .val (.int s1), .val (.int s2), .val (.int kd), .val (.int n0_), .val (.int n1_), .val (.int m0_), .val (.int m1_), .val (.int q0_), .val (.int q1_), .val (.int r0_), .val (.int r1_), .val (.ref x0), .val (.ref x1), .val (.ref x2), .val (.ref x3), .val (.ref t1), .val (.int (own_teq (own_cs l1 n0_ n1_) (own_cs l3 q0_ q1_) (own_cs l1 n0_ n1_) (own_cs l3 q0_ q1_))), .val (.ref t2), .val (.int (0 : Int32)), .val (.int (own_teq (own_cs l1 n0_ n1_) (own_cs l3 q0_ q1_) (own_cs l2 m0_ m1_) (own_cs l4 r0_ r1_))), .val (.int (1 : Int32))] [(.int (own_teq (own_cs l2 m0_ m1_) (own_cs l4 r0_ r1_) (own_cs l1 n0_ n1_) (own_cs l3 q0_ q1_)))])) _
          refine XS.iload X208.here hx rfl (hb hby at_413) rfl ?_
          show Steps p.tables e below (T208.setTop (mkF m 415 #[.val (.int p1), .val (.int p2), .val (.int p3), .val (.int p4), .val (.int p5), .val (.int l1), .val (.int l2), .val (.int l3), .val (.int l4), .val (.int s1), .val (.int s2), .val (.int kd), .val (.int n0_), .val (.int n1_), .val (.int m0_), .val (.int m1_), .val (.int q0_), .val (.int q1_), .val (.int r0_), .val (.int r1_), .val (.ref x0), .val (.ref x1), .val (.ref x2), .val (.ref x3), .val (.ref t1), .val (.int (own_teq (own_cs l1 n0_ n1_) (own_cs l3 q0_ q1_) (own_cs l1 n0_ n1_) (own_cs l3 q0_ q1_))), .val (.ref t2), .val (.int (0 : Int32)), .val (.int (own_teq (own_cs l1 n0_ n1_) (own_cs l3 q0_ q1_) (own_cs l2 m0_ m1_) (own_cs l4 r0_ r1_))), .val (.int (1 : Int32))] [(.int (own_teq (own_cs l1 n0_ n1_) (own_cs l3 q0_ q1_) (own_cs l2 m0_ m1_) (own_cs l4 r0_ r1_))), (.int (own_teq (own_cs l2 m0_ m1_) (own_cs l4 r0_ r1_) (own_cs l1 n0_ n1_) (own_cs l3 q0_ q1_)))])) _
          refine XS.icmpNo X208.here hx rfl (hb hby at_415) rfl (teq (own_teqc _ _ _ _)).2 ?_
          show Steps p.tables e below (T208.setTop (mkF m 418 #[.val (.int p1), .val (.int p2), .val (.int p3), .val (.int p4), .val (.int p5), .val (.int l1), .val (.int l2), .val (.int l3), .val (.int l4), .val (.int s1), .val (.int s2), .val (.int kd), .val (.int n0_), .val (.int n1_), .val (.int m0_), .val (.int m1_), .val (.int q0_), .val (.int q1_), .val (.int r0_), .val (.int r1_), .val (.ref x0), .val (.ref x1), .val (.ref x2), .val (.ref x3), .val (.ref t1), .val (.int (own_teq (own_cs l1 n0_ n1_) (own_cs l3 q0_ q1_) (own_cs l1 n0_ n1_) (own_cs l3 q0_ q1_))), .val (.ref t2), .val (.int (0 : Int32)), .val (.int (own_teq (own_cs l1 n0_ n1_) (own_cs l3 q0_ q1_) (own_cs l2 m0_ m1_) (own_cs l4 r0_ r1_))), .val (.int (1 : Int32))] [])) _
          refine XS.iconst X208.here hx rfl (hb hby at_418) ?_
          show Steps p.tables e below (T208.setTop (mkF m 419 #[.val (.int p1), .val (.int p2), .val (.int p3), .val (.int p4), .val (.int p5), .val (.int l1), .val (.int l2), .val (.int l3), .val (.int l4), .val (.int s1), .val (.int s2), .val (.int kd), .val (.int n0_), .val (.int n1_), .val (.int m0_), .val (.int m1_), .val (.int q0_), .val (.int q1_), .val (.int r0_), .val (.int r1_), .val (.ref x0), .val (.ref x1), .val (.ref x2), .val (.ref x3), .val (.ref t1), .val (.int (own_teq (own_cs l1 n0_ n1_) (own_cs l3 q0_ q1_) (own_cs l1 n0_ n1_) (own_cs l3 q0_ q1_))), .val (.ref t2), .val (.int (0 : Int32)), .val (.int (own_teq (own_cs l1 n0_ n1_) (own_cs l3 q0_ q1_) (own_cs l2 m0_ m1_) (own_cs l4 r0_ r1_))), .val (.int (1 : Int32))] [(.int (1 : Int32))])) _
          refine XS.goto X208.here hx rfl (pc0 := 419) (pc' := 423) rfl (hb hby at_419) (by decide) (by decide) ?_
          show Steps p.tables e below (T208.setTop (mkF m 423 #[.val (.int p1), .val (.int p2), .val (.int p3), .val (.int p4), .val (.int p5), .val (.int l1), .val (.int l2), .val (.int l3), .val (.int l4), .val (.int s1), .val (.int s2), .val (.int kd), .val (.int n0_), .val (.int n1_), .val (.int m0_), .val (.int m1_), .val (.int q0_), .val (.int q1_), .val (.int r0_), .val (.int r1_), .val (.ref x0), .val (.ref x1), .val (.ref x2), .val (.ref x3), .val (.ref t1), .val (.int (own_teq (own_cs l1 n0_ n1_) (own_cs l3 q0_ q1_) (own_cs l1 n0_ n1_) (own_cs l3 q0_ q1_))), .val (.ref t2), .val (.int (0 : Int32)), .val (.int (own_teq (own_cs l1 n0_ n1_) (own_cs l3 q0_ q1_) (own_cs l2 m0_ m1_) (own_cs l4 r0_ r1_))), .val (.int (1 : Int32))] [(.int (1 : Int32))])) _
          refine XS.istore X208.here hx rfl (hb hby at_423) rfl (l' := #[.val (.int p1), .val (.int p2), .val (.int p3), .val (.int p4), .val (.int p5), .val (.int l1), .val (.int l2), .val (.int l3), .val (.int l4), .val (.int s1), .val (.int s2), .val (.int kd), .val (.int n0_), .val (.int n1_), .val (.int m0_), .val (.int m1_), .val (.int q0_), .val (.int q1_), .val (.int r0_), .val (.int r1_), .val (.ref x0), .val (.ref x1), .val (.ref x2), .val (.ref x3), .val (.ref t1), .val (.int (own_teq (own_cs l1 n0_ n1_) (own_cs l3 q0_ q1_) (own_cs l1 n0_ n1_) (own_cs l3 q0_ q1_))), .val (.ref t2), .val (.int (0 : Int32)), .val (.int (own_teq (own_cs l1 n0_ n1_) (own_cs l3 q0_ q1_) (own_cs l2 m0_ m1_) (own_cs l4 r0_ r1_))), .val (.int (1 : Int32))]) rfl ?_
          show Steps p.tables e below (T208.setTop (mkF m 425 #[.val (.int p1), .val (.int p2), .val (.int p3), .val (.int p4), .val (.int p5), .val (.int l1), .val (.int l2), .val (.int l3), .val (.int l4), .val (.int s1), .val (.int s2), .val (.int kd), .val (.int n0_), .val (.int n1_), .val (.int m0_), .val (.int m1_), .val (.int q0_), .val (.int q1_), .val (.int r0_), .val (.int r1_), .val (.ref x0), .val (.ref x1), .val (.ref x2), .val (.ref x3), .val (.ref t1), .val (.int (own_teq (own_cs l1 n0_ n1_) (own_cs l3 q0_ q1_) (own_cs l1 n0_ n1_) (own_cs l3 q0_ q1_))), .val (.ref t2), .val (.int (0 : Int32)), .val (.int (own_teq (own_cs l1 n0_ n1_) (own_cs l3 q0_ q1_) (own_cs l2 m0_ m1_) (own_cs l4 r0_ r1_))), .val (.int (1 : Int32))] [])) _
          refine XS.iload X208.here hx rfl (hb hby at_425) rfl ?_
          show Steps p.tables e below (T208.setTop (mkF m 427 #[.val (.int p1), .val (.int p2), .val (.int p3), .val (.int p4), .val (.int p5), .val (.int l1), .val (.int l2), .val (.int l3), .val (.int l4), .val (.int s1), .val (.int s2), .val (.int kd), .val (.int n0_), .val (.int n1_), .val (.int m0_), .val (.int m1_), .val (.int q0_), .val (.int q1_), .val (.int r0_), .val (.int r1_), .val (.ref x0), .val (.ref x1), .val (.ref x2), .val (.ref x3), .val (.ref t1), .val (.int (own_teq (own_cs l1 n0_ n1_) (own_cs l3 q0_ q1_) (own_cs l1 n0_ n1_) (own_cs l3 q0_ q1_))), .val (.ref t2), .val (.int (0 : Int32)), .val (.int (own_teq (own_cs l1 n0_ n1_) (own_cs l3 q0_ q1_) (own_cs l2 m0_ m1_) (own_cs l4 r0_ r1_))), .val (.int (1 : Int32))] [(.int (own_teq (own_cs l1 n0_ n1_) (own_cs l3 q0_ q1_) (own_cs l1 n0_ n1_) (own_cs l3 q0_ q1_)))])) _
          refine XS.ifNo X208.here hx rfl (hb hby at_427) rfl ((if0 _ _).trans (feq (by rw [own_teqs]; decide)).1) ?_
          show Steps p.tables e below (T208.setTop (mkF m 430 #[.val (.int p1), .val (.int p2), .val (.int p3), .val (.int p4), .val (.int p5), .val (.int l1), .val (.int l2), .val (.int l3), .val (.int l4), .val (.int s1), .val (.int s2), .val (.int kd), .val (.int n0_), .val (.int n1_), .val (.int m0_), .val (.int m1_), .val (.int q0_), .val (.int q1_), .val (.int r0_), .val (.int r1_), .val (.ref x0), .val (.ref x1), .val (.ref x2), .val (.ref x3), .val (.ref t1), .val (.int (own_teq (own_cs l1 n0_ n1_) (own_cs l3 q0_ q1_) (own_cs l1 n0_ n1_) (own_cs l3 q0_ q1_))), .val (.ref t2), .val (.int (0 : Int32)), .val (.int (own_teq (own_cs l1 n0_ n1_) (own_cs l3 q0_ q1_) (own_cs l2 m0_ m1_) (own_cs l4 r0_ r1_))), .val (.int (1 : Int32))] [])) _
          refine XS.iload X208.here hx rfl (hb hby at_430) rfl ?_
          show Steps p.tables e below (T208.setTop (mkF m 432 #[.val (.int p1), .val (.int p2), .val (.int p3), .val (.int p4), .val (.int p5), .val (.int l1), .val (.int l2), .val (.int l3), .val (.int l4), .val (.int s1), .val (.int s2), .val (.int kd), .val (.int n0_), .val (.int n1_), .val (.int m0_), .val (.int m1_), .val (.int q0_), .val (.int q1_), .val (.int r0_), .val (.int r1_), .val (.ref x0), .val (.ref x1), .val (.ref x2), .val (.ref x3), .val (.ref t1), .val (.int (own_teq (own_cs l1 n0_ n1_) (own_cs l3 q0_ q1_) (own_cs l1 n0_ n1_) (own_cs l3 q0_ q1_))), .val (.ref t2), .val (.int (0 : Int32)), .val (.int (own_teq (own_cs l1 n0_ n1_) (own_cs l3 q0_ q1_) (own_cs l2 m0_ m1_) (own_cs l4 r0_ r1_))), .val (.int (1 : Int32))] [(.int (own_teq (own_cs l1 n0_ n1_) (own_cs l3 q0_ q1_) (own_cs l2 m0_ m1_) (own_cs l4 r0_ r1_)))])) _
          refine XS.iload X208.here hx rfl (hb hby at_432) rfl ?_
          show Steps p.tables e below (T208.setTop (mkF m 434 #[.val (.int p1), .val (.int p2), .val (.int p3), .val (.int p4), .val (.int p5), .val (.int l1), .val (.int l2), .val (.int l3), .val (.int l4), .val (.int s1), .val (.int s2), .val (.int kd), .val (.int n0_), .val (.int n1_), .val (.int m0_), .val (.int m1_), .val (.int q0_), .val (.int q1_), .val (.int r0_), .val (.int r1_), .val (.ref x0), .val (.ref x1), .val (.ref x2), .val (.ref x3), .val (.ref t1), .val (.int (own_teq (own_cs l1 n0_ n1_) (own_cs l3 q0_ q1_) (own_cs l1 n0_ n1_) (own_cs l3 q0_ q1_))), .val (.ref t2), .val (.int (0 : Int32)), .val (.int (own_teq (own_cs l1 n0_ n1_) (own_cs l3 q0_ q1_) (own_cs l2 m0_ m1_) (own_cs l4 r0_ r1_))), .val (.int (1 : Int32))] [(.int (0 : Int32)), (.int (own_teq (own_cs l1 n0_ n1_) (own_cs l3 q0_ q1_) (own_cs l2 m0_ m1_) (own_cs l4 r0_ r1_)))])) _
          refine XS.icmpNo X208.here hx rfl (hb hby at_434) rfl (teq (by rw [own_teq, if_pos hA, if_neg hB])).2 ?_
          show Steps p.tables e below (T208.setTop (mkF m 437 #[.val (.int p1), .val (.int p2), .val (.int p3), .val (.int p4), .val (.int p5), .val (.int l1), .val (.int l2), .val (.int l3), .val (.int l4), .val (.int s1), .val (.int s2), .val (.int kd), .val (.int n0_), .val (.int n1_), .val (.int m0_), .val (.int m1_), .val (.int q0_), .val (.int q1_), .val (.int r0_), .val (.int r1_), .val (.ref x0), .val (.ref x1), .val (.ref x2), .val (.ref x3), .val (.ref t1), .val (.int (own_teq (own_cs l1 n0_ n1_) (own_cs l3 q0_ q1_) (own_cs l1 n0_ n1_) (own_cs l3 q0_ q1_))), .val (.ref t2), .val (.int (0 : Int32)), .val (.int (own_teq (own_cs l1 n0_ n1_) (own_cs l3 q0_ q1_) (own_cs l2 m0_ m1_) (own_cs l4 r0_ r1_))), .val (.int (1 : Int32))] [])) _
          refine XS.iload X208.here hx rfl (hb hby at_437) rfl ?_
          show Steps p.tables e below (T208.setTop (mkF m 439 #[.val (.int p1), .val (.int p2), .val (.int p3), .val (.int p4), .val (.int p5), .val (.int l1), .val (.int l2), .val (.int l3), .val (.int l4), .val (.int s1), .val (.int s2), .val (.int kd), .val (.int n0_), .val (.int n1_), .val (.int m0_), .val (.int m1_), .val (.int q0_), .val (.int q1_), .val (.int r0_), .val (.int r1_), .val (.ref x0), .val (.ref x1), .val (.ref x2), .val (.ref x3), .val (.ref t1), .val (.int (own_teq (own_cs l1 n0_ n1_) (own_cs l3 q0_ q1_) (own_cs l1 n0_ n1_) (own_cs l3 q0_ q1_))), .val (.ref t2), .val (.int (0 : Int32)), .val (.int (own_teq (own_cs l1 n0_ n1_) (own_cs l3 q0_ q1_) (own_cs l2 m0_ m1_) (own_cs l4 r0_ r1_))), .val (.int (1 : Int32))] [(.int (1 : Int32))])) _
          refine XS.ifNo X208.here hx rfl (hb hby at_439) rfl ((if0 _ _).trans (feq (by decide : ¬ (1 : Int32) = 0)).1) ?_
          show Steps p.tables e below (T208.setTop (mkF m 442 #[.val (.int p1), .val (.int p2), .val (.int p3), .val (.int p4), .val (.int p5), .val (.int l1), .val (.int l2), .val (.int l3), .val (.int l4), .val (.int s1), .val (.int s2), .val (.int kd), .val (.int n0_), .val (.int n1_), .val (.int m0_), .val (.int m1_), .val (.int q0_), .val (.int q1_), .val (.int r0_), .val (.int r1_), .val (.ref x0), .val (.ref x1), .val (.ref x2), .val (.ref x3), .val (.ref t1), .val (.int (own_teq (own_cs l1 n0_ n1_) (own_cs l3 q0_ q1_) (own_cs l1 n0_ n1_) (own_cs l3 q0_ q1_))), .val (.ref t2), .val (.int (0 : Int32)), .val (.int (own_teq (own_cs l1 n0_ n1_) (own_cs l3 q0_ q1_) (own_cs l2 m0_ m1_) (own_cs l4 r0_ r1_))), .val (.int (1 : Int32))] [])) _
          refine XS.iconst X208.here hx rfl (hb hby at_442) ?_
          show Steps p.tables e below (T208.setTop (mkF m 443 #[.val (.int p1), .val (.int p2), .val (.int p3), .val (.int p4), .val (.int p5), .val (.int l1), .val (.int l2), .val (.int l3), .val (.int l4), .val (.int s1), .val (.int s2), .val (.int kd), .val (.int n0_), .val (.int n1_), .val (.int m0_), .val (.int m1_), .val (.int q0_), .val (.int q1_), .val (.int r0_), .val (.int r1_), .val (.ref x0), .val (.ref x1), .val (.ref x2), .val (.ref x3), .val (.ref t1), .val (.int (own_teq (own_cs l1 n0_ n1_) (own_cs l3 q0_ q1_) (own_cs l1 n0_ n1_) (own_cs l3 q0_ q1_))), .val (.ref t2), .val (.int (0 : Int32)), .val (.int (own_teq (own_cs l1 n0_ n1_) (own_cs l3 q0_ q1_) (own_cs l2 m0_ m1_) (own_cs l4 r0_ r1_))), .val (.int (1 : Int32))] [(.int (1 : Int32))])) _
          refine XS.goto X208.here hx rfl (pc0 := 443) (pc' := 447) rfl (hb hby at_443) (by decide) (by decide) ?_
          exact k_)
        obtain ⟨fs, hr, hrun, hended, hWr, hW1, hW2, hsame⟩ := Jvm.Stand.leaveW (s := s) X208 hS188' (by rw [e208]; exact (Nat.le_refl _)) (v := some (.int (1 : Int32))) (fun h => by rw [Bd.returns] at h; cases h)
        refine ⟨_, _, pre209 _ ?_, hrun, hended, _, _, rfl, ?_, hWr, hW1, hW2, hsame.mono (by decide) (by decide)⟩
        · show Steps p.tables e below (T208.setTop (mkF m 447 #[.val (.int p1), .val (.int p2), .val (.int p3), .val (.int p4), .val (.int p5), .val (.int l1), .val (.int l2), .val (.int l3), .val (.int l4), .val (.int s1), .val (.int s2), .val (.int kd), .val (.int n0_), .val (.int n1_), .val (.int m0_), .val (.int m1_), .val (.int q0_), .val (.int q1_), .val (.int r0_), .val (.int r1_), .val (.ref x0), .val (.ref x1), .val (.ref x2), .val (.ref x3), .val (.ref t1), .val (.int (own_teq (own_cs l1 n0_ n1_) (own_cs l3 q0_ q1_) (own_cs l1 n0_ n1_) (own_cs l3 q0_ q1_))), .val (.ref t2), .val (.int (0 : Int32)), .val (.int (own_teq (own_cs l1 n0_ n1_) (own_cs l3 q0_ q1_) (own_cs l2 m0_ m1_) (own_cs l4 r0_ r1_))), .val (.int (1 : Int32))] [(.int (1 : Int32))])) _
          exact retN X208 hx (t := .boolean) Bd.returns (by simp) (hb hby at_447) hr
        · show Qrm0 Z p1 p2 p3 p4 p5 zc h0 n0 _ T208.heap _
          rw [e208]
          exact ⟨rfl, N208⟩
    · skip
      obtain ⟨cq210, kq210, q210a, q210b, q210c⟩ := isOf hZ188 e200 E_t1_194
      obtain ⟨_, _, ⟨T210, L210, k210, n210⟩, -, X210, ⟨Lc210, hQ210, l210, y210, z210⟩, st210⟩ := X200.virtualBack hx (y := (⟨"com/example/cranfield/cranfield/model/Topic", "equals", "(Ljava/lang/Object;)Z"⟩ : MethodName)) (z := (⟨"com/example/cranfield/cranfield/model/Topic", "equals", "(Ljava/lang/Object;)Z"⟩ : MethodName)) hown188 (mvT hZ188 (hw _ (List.mem_of_getElem? (i := 44) rfl))) (mvT hZ188 (hw _ (List.mem_of_getElem? (i := 45) rfl))) (notFace_of_selects (args := #[]) (mvT hZ188 (hw _ (List.mem_of_getElem? (i := 47) rfl)))) (mvT hZ188 (hw _ (List.mem_of_getElem? (i := 47) rfl))) (mvT hZ188 (hw _ (List.mem_of_getElem? (i := 46) rfl))) (by decide) (backOf (W := 0) (rmE2 l Z a0 hw [] t1 t2 x0 x2 x1 x3 (own_cs l1 n0_ n1_) (own_cs l3 q0_ q1_) (own_cs l2 m0_ m1_) (own_cs l4 r0_ r1_) zc T188.heap n0 Z198 E188 F0_t1_195 F1_t1_196 F0188 F1188 T_189 T_191 T_190 T_192 (S_c.ext O_199.2) hzc) hZ188 (hw _ (List.mem_of_getElem? (i := 48) rfl)) (hw _ (List.mem_of_getElem? (i := 28) rfl)) (by decide) (by decide)) q210a q210c (g := (mkF m 392 #[.val (.int p1), .val (.int p2), .val (.int p3), .val (.int p4), .val (.int p5), .val (.int l1), .val (.int l2), .val (.int l3), .val (.int l4), .val (.int s1), .val (.int s2), .val (.int kd), .val (.int n0_), .val (.int n1_), .val (.int m0_), .val (.int m1_), .val (.int q0_), .val (.int q1_), .val (.int r0_), .val (.int r1_), .val (.ref x0), .val (.ref x1), .val (.ref x2), .val (.ref x3), .val (.ref t1), .val (.int (own_teq (own_cs l1 n0_ n1_) (own_cs l3 q0_ q1_) (own_cs l1 n0_ n1_) (own_cs l3 q0_ q1_))), .val (.ref t2), .val (.int (0 : Int32)), .unset, .unset] [(.ref t2), (.ref t1)])) rfl (by rw [hml]; rfl) (Steps.refl _) (argsL := [(.ref t2)]) (rest := []) (lenOf pd_3 rfl) rfl (by show 2 * 0 + _ ≤ _; exact Nat.le_of_eq rfl) (hb hby at_392) (fun _ _ => ⟨rfl, e200, (by decide : 34 + 0 ≤ _), (by decide : 156 + 0 ≤ _)⟩)
      dsimp only [Pt.U, Pt.locs, Pt.cells, Pt.slots] at X210 l210 y210 z210 st210 hQ210
      subst l210 y210 z210
      obtain ⟨rfl, N210q, e210⟩ := hQ210
      have N210 := Fr.app N200 N210q
      obtain ⟨cq211, kq211, q211a, q211b, q211c⟩ := isOf hZ188 e210 E188
      obtain ⟨_, _, ⟨T211, L211, k211, n211⟩, -, X211, ⟨Lc211, hQ211, l211, y211, z211⟩, st211⟩ := X210.virtualBack hx (y := (⟨"java/lang/Object", "equals", "(Ljava/lang/Object;)Z"⟩ : MethodName)) (z := (⟨"com/example/cranfield/cranfield/model/Topic", "equals", "(Ljava/lang/Object;)Z"⟩ : MethodName)) hown188 (mvT hZ188 (hw _ (List.mem_of_getElem? (i := 65) rfl))) (mvT hZ188 (hw _ (List.mem_of_getElem? (i := 66) rfl))) (nf_top (args := #[]) (mvT hZ188 (hw _ (List.mem_of_getElem? (i := 80) rfl)))) (mvT hZ188 (hw _ (List.mem_of_getElem? (i := 68) rfl))) (mvT hZ188 (hw _ (List.mem_of_getElem? (i := 46) rfl))) (by decide) (backOf (W := 0) (rmE2 l Z a0 hw [] t2 t1 x1 x3 x0 x2 (own_cs l2 m0_ m1_) (own_cs l4 r0_ r1_) (own_cs l1 n0_ n1_) (own_cs l3 q0_ q1_) zc T188.heap n0 Z198 E_t1_194 F0188 F1188 F0_t1_195 F1_t1_196 T_190 T_192 T_189 T_191 (S_c.ext O_199.2) hzc) hZ188 (hw _ (List.mem_of_getElem? (i := 48) rfl)) (hw _ (List.mem_of_getElem? (i := 28) rfl)) (by decide) (by decide)) q211a q211c (g := (mkF m 410 #[.val (.int p1), .val (.int p2), .val (.int p3), .val (.int p4), .val (.int p5), .val (.int l1), .val (.int l2), .val (.int l3), .val (.int l4), .val (.int s1), .val (.int s2), .val (.int kd), .val (.int n0_), .val (.int n1_), .val (.int m0_), .val (.int m1_), .val (.int q0_), .val (.int q1_), .val (.int r0_), .val (.int r1_), .val (.ref x0), .val (.ref x1), .val (.ref x2), .val (.ref x3), .val (.ref t1), .val (.int (own_teq (own_cs l1 n0_ n1_) (own_cs l3 q0_ q1_) (own_cs l1 n0_ n1_) (own_cs l3 q0_ q1_))), .val (.ref t2), .val (.int (0 : Int32)), .val (.int (own_teq (own_cs l1 n0_ n1_) (own_cs l3 q0_ q1_) (own_cs l2 m0_ m1_) (own_cs l4 r0_ r1_))), .val (.int (1 : Int32))] [(.ref t1), (.ref t2)])) rfl (by rw [hml]; rfl) (Steps.refl _) (argsL := [(.ref t1)]) (rest := []) (lenOf pd_3 rfl) rfl (by show 2 * 0 + _ ≤ _; exact Nat.le_of_eq rfl) (hb hby at_410) (fun _ _ => ⟨rfl, e210, (by decide : 34 + 0 ≤ _), (by decide : 156 + 0 ≤ _)⟩)
      dsimp only [Pt.U, Pt.locs, Pt.cells, Pt.slots] at X211 l211 y211 z211 st211 hQ211
      subst l211 y211 z211
      obtain ⟨rfl, N211q, e211⟩ := hQ211
      have N211 := Fr.app N210 N211q
      have pre212 : ∀ t_, Steps p.tables e below (T211.setTop (mkF m 447 #[.val (.int p1), .val (.int p2), .val (.int p3), .val (.int p4), .val (.int p5), .val (.int l1), .val (.int l2), .val (.int l3), .val (.int l4), .val (.int s1), .val (.int s2), .val (.int kd), .val (.int n0_), .val (.int n1_), .val (.int m0_), .val (.int m1_), .val (.int q0_), .val (.int q1_), .val (.int r0_), .val (.int r1_), .val (.ref x0), .val (.ref x1), .val (.ref x2), .val (.ref x3), .val (.ref t1), .val (.int (own_teq (own_cs l1 n0_ n1_) (own_cs l3 q0_ q1_) (own_cs l1 n0_ n1_) (own_cs l3 q0_ q1_))), .val (.ref t2), .val (.int (0 : Int32)), .val (.int (own_teq (own_cs l1 n0_ n1_) (own_cs l3 q0_ q1_) (own_cs l2 m0_ m1_) (own_cs l4 r0_ r1_))), .val (.int (1 : Int32))] [(.int (1 : Int32))])) t_ → Steps p.tables e below (s₁.setTop (entryFrame m #[(.int p1), (.int p2), (.int p3), (.int p4), (.int p5)] maxLocals)) t_ := fun t_ k_ => pre201 _ (by
        show Steps p.tables e below (T200.setTop (mkF m 360 #[.val (.int p1), .val (.int p2), .val (.int p3), .val (.int p4), .val (.int p5), .val (.int l1), .val (.int l2), .val (.int l3), .val (.int l4), .val (.int s1), .val (.int s2), .val (.int kd), .val (.int n0_), .val (.int n1_), .val (.int m0_), .val (.int m1_), .val (.int q0_), .val (.int q1_), .val (.int r0_), .val (.int r1_), .val (.ref x0), .val (.ref x1), .val (.ref x2), .val (.ref x3), .val (.ref t1), .val (.int (own_teq (own_cs l1 n0_ n1_) (own_cs l3 q0_ q1_) (own_cs l1 n0_ n1_) (own_cs l3 q0_ q1_))), .val (.ref t2), .unset, .unset, .unset] [(.int (if own_cs l1 n0_ n1_ = own_cs l2 m0_ m1_ then (1 : Int32) else 0))])) _
        refine XS.ifYes X200.here hx rfl (pc0 := 360) (pc' := 385) rfl (hb hby at_360) rfl ((if0 _ _).trans (teq (by rw [if_neg hA])).1) (by decide) (by decide) ?_
        show Steps p.tables e below (T200.setTop (mkF m 385 #[.val (.int p1), .val (.int p2), .val (.int p3), .val (.int p4), .val (.int p5), .val (.int l1), .val (.int l2), .val (.int l3), .val (.int l4), .val (.int s1), .val (.int s2), .val (.int kd), .val (.int n0_), .val (.int n1_), .val (.int m0_), .val (.int m1_), .val (.int q0_), .val (.int q1_), .val (.int r0_), .val (.int r1_), .val (.ref x0), .val (.ref x1), .val (.ref x2), .val (.ref x3), .val (.ref t1), .val (.int (own_teq (own_cs l1 n0_ n1_) (own_cs l3 q0_ q1_) (own_cs l1 n0_ n1_) (own_cs l3 q0_ q1_))), .val (.ref t2), .unset, .unset, .unset] [])) _
        refine XS.iconst X200.here hx rfl (hb hby at_385) ?_
        show Steps p.tables e below (T200.setTop (mkF m 386 #[.val (.int p1), .val (.int p2), .val (.int p3), .val (.int p4), .val (.int p5), .val (.int l1), .val (.int l2), .val (.int l3), .val (.int l4), .val (.int s1), .val (.int s2), .val (.int kd), .val (.int n0_), .val (.int n1_), .val (.int m0_), .val (.int m1_), .val (.int q0_), .val (.int q1_), .val (.int r0_), .val (.int r1_), .val (.ref x0), .val (.ref x1), .val (.ref x2), .val (.ref x3), .val (.ref t1), .val (.int (own_teq (own_cs l1 n0_ n1_) (own_cs l3 q0_ q1_) (own_cs l1 n0_ n1_) (own_cs l3 q0_ q1_))), .val (.ref t2), .unset, .unset, .unset] [(.int (0 : Int32))])) _
        refine XS.istore X200.here hx rfl (hb hby at_386) rfl (l' := #[.val (.int p1), .val (.int p2), .val (.int p3), .val (.int p4), .val (.int p5), .val (.int l1), .val (.int l2), .val (.int l3), .val (.int l4), .val (.int s1), .val (.int s2), .val (.int kd), .val (.int n0_), .val (.int n1_), .val (.int m0_), .val (.int m1_), .val (.int q0_), .val (.int q1_), .val (.int r0_), .val (.int r1_), .val (.ref x0), .val (.ref x1), .val (.ref x2), .val (.ref x3), .val (.ref t1), .val (.int (own_teq (own_cs l1 n0_ n1_) (own_cs l3 q0_ q1_) (own_cs l1 n0_ n1_) (own_cs l3 q0_ q1_))), .val (.ref t2), .val (.int (0 : Int32)), .unset, .unset]) rfl ?_
        show Steps p.tables e below (T200.setTop (mkF m 388 #[.val (.int p1), .val (.int p2), .val (.int p3), .val (.int p4), .val (.int p5), .val (.int l1), .val (.int l2), .val (.int l3), .val (.int l4), .val (.int s1), .val (.int s2), .val (.int kd), .val (.int n0_), .val (.int n1_), .val (.int m0_), .val (.int m1_), .val (.int q0_), .val (.int q1_), .val (.int r0_), .val (.int r1_), .val (.ref x0), .val (.ref x1), .val (.ref x2), .val (.ref x3), .val (.ref t1), .val (.int (own_teq (own_cs l1 n0_ n1_) (own_cs l3 q0_ q1_) (own_cs l1 n0_ n1_) (own_cs l3 q0_ q1_))), .val (.ref t2), .val (.int (0 : Int32)), .unset, .unset] [])) _
        refine XS.aload X200.here hx rfl (hb hby at_388) rfl rfl ?_
        show Steps p.tables e below (T200.setTop (mkF m 390 #[.val (.int p1), .val (.int p2), .val (.int p3), .val (.int p4), .val (.int p5), .val (.int l1), .val (.int l2), .val (.int l3), .val (.int l4), .val (.int s1), .val (.int s2), .val (.int kd), .val (.int n0_), .val (.int n1_), .val (.int m0_), .val (.int m1_), .val (.int q0_), .val (.int q1_), .val (.int r0_), .val (.int r1_), .val (.ref x0), .val (.ref x1), .val (.ref x2), .val (.ref x3), .val (.ref t1), .val (.int (own_teq (own_cs l1 n0_ n1_) (own_cs l3 q0_ q1_) (own_cs l1 n0_ n1_) (own_cs l3 q0_ q1_))), .val (.ref t2), .val (.int (0 : Int32)), .unset, .unset] [(.ref t1)])) _
        refine XS.aload X200.here hx rfl (hb hby at_390) rfl rfl ?_
        show Steps p.tables e below (T200.setTop (mkF m 392 #[.val (.int p1), .val (.int p2), .val (.int p3), .val (.int p4), .val (.int p5), .val (.int l1), .val (.int l2), .val (.int l3), .val (.int l4), .val (.int s1), .val (.int s2), .val (.int kd), .val (.int n0_), .val (.int n1_), .val (.int m0_), .val (.int m1_), .val (.int q0_), .val (.int q1_), .val (.int r0_), .val (.int r1_), .val (.ref x0), .val (.ref x1), .val (.ref x2), .val (.ref x3), .val (.ref t1), .val (.int (own_teq (own_cs l1 n0_ n1_) (own_cs l3 q0_ q1_) (own_cs l1 n0_ n1_) (own_cs l3 q0_ q1_))), .val (.ref t2), .val (.int (0 : Int32)), .unset, .unset] [(.ref t2), (.ref t1)])) _
        refine st210.trans ?_
        show Steps p.tables e below (T210.setTop (mkF m 395 #[.val (.int p1), .val (.int p2), .val (.int p3), .val (.int p4), .val (.int p5), .val (.int l1), .val (.int l2), .val (.int l3), .val (.int l4), .val (.int s1), .val (.int s2), .val (.int kd), .val (.int n0_), .val (.int n1_), .val (.int m0_), .val (.int m1_), .val (.int q0_), .val (.int q1_), .val (.int r0_), .val (.int r1_), .val (.ref x0), .val (.ref x1), .val (.ref x2), .val (.ref x3), .val (.ref t1), .val (.int (own_teq (own_cs l1 n0_ n1_) (own_cs l3 q0_ q1_) (own_cs l1 n0_ n1_) (own_cs l3 q0_ q1_))), .val (.ref t2), .val (.int (0 : Int32)), .unset, .unset] [(.int (own_teq (own_cs l1 n0_ n1_) (own_cs l3 q0_ q1_) (own_cs l2 m0_ m1_) (own_cs l4 r0_ r1_)))])) _
        refine XS.istore X210.here hx rfl (hb hby at_395) rfl (l' := #[.val (.int p1), .val (.int p2), .val (.int p3), .val (.int p4), .val (.int p5), .val (.int l1), .val (.int l2), .val (.int l3), .val (.int l4), .val (.int s1), .val (.int s2), .val (.int kd), .val (.int n0_), .val (.int n1_), .val (.int m0_), .val (.int m1_), .val (.int q0_), .val (.int q1_), .val (.int r0_), .val (.int r1_), .val (.ref x0), .val (.ref x1), .val (.ref x2), .val (.ref x3), .val (.ref t1), .val (.int (own_teq (own_cs l1 n0_ n1_) (own_cs l3 q0_ q1_) (own_cs l1 n0_ n1_) (own_cs l3 q0_ q1_))), .val (.ref t2), .val (.int (0 : Int32)), .val (.int (own_teq (own_cs l1 n0_ n1_) (own_cs l3 q0_ q1_) (own_cs l2 m0_ m1_) (own_cs l4 r0_ r1_))), .unset]) rfl ?_
        show Steps p.tables e below (T210.setTop (mkF m 397 #[.val (.int p1), .val (.int p2), .val (.int p3), .val (.int p4), .val (.int p5), .val (.int l1), .val (.int l2), .val (.int l3), .val (.int l4), .val (.int s1), .val (.int s2), .val (.int kd), .val (.int n0_), .val (.int n1_), .val (.int m0_), .val (.int m1_), .val (.int q0_), .val (.int q1_), .val (.int r0_), .val (.int r1_), .val (.ref x0), .val (.ref x1), .val (.ref x2), .val (.ref x3), .val (.ref t1), .val (.int (own_teq (own_cs l1 n0_ n1_) (own_cs l3 q0_ q1_) (own_cs l1 n0_ n1_) (own_cs l3 q0_ q1_))), .val (.ref t2), .val (.int (0 : Int32)), .val (.int (own_teq (own_cs l1 n0_ n1_) (own_cs l3 q0_ q1_) (own_cs l2 m0_ m1_) (own_cs l4 r0_ r1_))), .unset] [])) _
        refine XS.iconst X210.here hx rfl (hb hby at_397) ?_
        show Steps p.tables e below (T210.setTop (mkF m 398 #[.val (.int p1), .val (.int p2), .val (.int p3), .val (.int p4), .val (.int p5), .val (.int l1), .val (.int l2), .val (.int l3), .val (.int l4), .val (.int s1), .val (.int s2), .val (.int kd), .val (.int n0_), .val (.int n1_), .val (.int m0_), .val (.int m1_), .val (.int q0_), .val (.int q1_), .val (.int r0_), .val (.int r1_), .val (.ref x0), .val (.ref x1), .val (.ref x2), .val (.ref x3), .val (.ref t1), .val (.int (own_teq (own_cs l1 n0_ n1_) (own_cs l3 q0_ q1_) (own_cs l1 n0_ n1_) (own_cs l3 q0_ q1_))), .val (.ref t2), .val (.int (0 : Int32)), .val (.int (own_teq (own_cs l1 n0_ n1_) (own_cs l3 q0_ q1_) (own_cs l2 m0_ m1_) (own_cs l4 r0_ r1_))), .unset] [(.int (1 : Int32))])) _
        refine XS.istore X210.here hx rfl (hb hby at_398) rfl (l' := #[.val (.int p1), .val (.int p2), .val (.int p3), .val (.int p4), .val (.int p5), .val (.int l1), .val (.int l2), .val (.int l3), .val (.int l4), .val (.int s1), .val (.int s2), .val (.int kd), .val (.int n0_), .val (.int n1_), .val (.int m0_), .val (.int m1_), .val (.int q0_), .val (.int q1_), .val (.int r0_), .val (.int r1_), .val (.ref x0), .val (.ref x1), .val (.ref x2), .val (.ref x3), .val (.ref t1), .val (.int (own_teq (own_cs l1 n0_ n1_) (own_cs l3 q0_ q1_) (own_cs l1 n0_ n1_) (own_cs l3 q0_ q1_))), .val (.ref t2), .val (.int (0 : Int32)), .val (.int (own_teq (own_cs l1 n0_ n1_) (own_cs l3 q0_ q1_) (own_cs l2 m0_ m1_) (own_cs l4 r0_ r1_))), .val (.int (1 : Int32))]) rfl ?_
        show Steps p.tables e below (T210.setTop (mkF m 400 #[.val (.int p1), .val (.int p2), .val (.int p3), .val (.int p4), .val (.int p5), .val (.int l1), .val (.int l2), .val (.int l3), .val (.int l4), .val (.int s1), .val (.int s2), .val (.int kd), .val (.int n0_), .val (.int n1_), .val (.int m0_), .val (.int m1_), .val (.int q0_), .val (.int q1_), .val (.int r0_), .val (.int r1_), .val (.ref x0), .val (.ref x1), .val (.ref x2), .val (.ref x3), .val (.ref t1), .val (.int (own_teq (own_cs l1 n0_ n1_) (own_cs l3 q0_ q1_) (own_cs l1 n0_ n1_) (own_cs l3 q0_ q1_))), .val (.ref t2), .val (.int (0 : Int32)), .val (.int (own_teq (own_cs l1 n0_ n1_) (own_cs l3 q0_ q1_) (own_cs l2 m0_ m1_) (own_cs l4 r0_ r1_))), .val (.int (1 : Int32))] [])) _
        refine XS.iload X210.here hx rfl (hb hby at_400) rfl ?_
        show Steps p.tables e below (T210.setTop (mkF m 402 #[.val (.int p1), .val (.int p2), .val (.int p3), .val (.int p4), .val (.int p5), .val (.int l1), .val (.int l2), .val (.int l3), .val (.int l4), .val (.int s1), .val (.int s2), .val (.int kd), .val (.int n0_), .val (.int n1_), .val (.int m0_), .val (.int m1_), .val (.int q0_), .val (.int q1_), .val (.int r0_), .val (.int r1_), .val (.ref x0), .val (.ref x1), .val (.ref x2), .val (.ref x3), .val (.ref t1), .val (.int (own_teq (own_cs l1 n0_ n1_) (own_cs l3 q0_ q1_) (own_cs l1 n0_ n1_) (own_cs l3 q0_ q1_))), .val (.ref t2), .val (.int (0 : Int32)), .val (.int (own_teq (own_cs l1 n0_ n1_) (own_cs l3 q0_ q1_) (own_cs l2 m0_ m1_) (own_cs l4 r0_ r1_))), .val (.int (1 : Int32))] [(.int kd)])) _
        refine XS.iconst X210.here hx rfl (hb hby at_402) ?_
        show Steps p.tables e below (T210.setTop (mkF m 403 #[.val (.int p1), .val (.int p2), .val (.int p3), .val (.int p4), .val (.int p5), .val (.int l1), .val (.int l2), .val (.int l3), .val (.int l4), .val (.int s1), .val (.int s2), .val (.int kd), .val (.int n0_), .val (.int n1_), .val (.int m0_), .val (.int m1_), .val (.int q0_), .val (.int q1_), .val (.int r0_), .val (.int r1_), .val (.ref x0), .val (.ref x1), .val (.ref x2), .val (.ref x3), .val (.ref t1), .val (.int (own_teq (own_cs l1 n0_ n1_) (own_cs l3 q0_ q1_) (own_cs l1 n0_ n1_) (own_cs l3 q0_ q1_))), .val (.ref t2), .val (.int (0 : Int32)), .val (.int (own_teq (own_cs l1 n0_ n1_) (own_cs l3 q0_ q1_) (own_cs l2 m0_ m1_) (own_cs l4 r0_ r1_))), .val (.int (1 : Int32))] [(.int (2 : Int32)), (.int kd)])) _
        refine XS.icmpNo X210.here hx rfl (hb hby at_403) rfl (tlt (by rw [q]; decide)).2.1 ?_
        show Steps p.tables e below (T210.setTop (mkF m 406 #[.val (.int p1), .val (.int p2), .val (.int p3), .val (.int p4), .val (.int p5), .val (.int l1), .val (.int l2), .val (.int l3), .val (.int l4), .val (.int s1), .val (.int s2), .val (.int kd), .val (.int n0_), .val (.int n1_), .val (.int m0_), .val (.int m1_), .val (.int q0_), .val (.int q1_), .val (.int r0_), .val (.int r1_), .val (.ref x0), .val (.ref x1), .val (.ref x2), .val (.ref x3), .val (.ref t1), .val (.int (own_teq (own_cs l1 n0_ n1_) (own_cs l3 q0_ q1_) (own_cs l1 n0_ n1_) (own_cs l3 q0_ q1_))), .val (.ref t2), .val (.int (0 : Int32)), .val (.int (own_teq (own_cs l1 n0_ n1_) (own_cs l3 q0_ q1_) (own_cs l2 m0_ m1_) (own_cs l4 r0_ r1_))), .val (.int (1 : Int32))] [])) _
        refine XS.aload X210.here hx rfl (hb hby at_406) rfl rfl ?_
        show Steps p.tables e below (T210.setTop (mkF m 408 #[.val (.int p1), .val (.int p2), .val (.int p3), .val (.int p4), .val (.int p5), .val (.int l1), .val (.int l2), .val (.int l3), .val (.int l4), .val (.int s1), .val (.int s2), .val (.int kd), .val (.int n0_), .val (.int n1_), .val (.int m0_), .val (.int m1_), .val (.int q0_), .val (.int q1_), .val (.int r0_), .val (.int r1_), .val (.ref x0), .val (.ref x1), .val (.ref x2), .val (.ref x3), .val (.ref t1), .val (.int (own_teq (own_cs l1 n0_ n1_) (own_cs l3 q0_ q1_) (own_cs l1 n0_ n1_) (own_cs l3 q0_ q1_))), .val (.ref t2), .val (.int (0 : Int32)), .val (.int (own_teq (own_cs l1 n0_ n1_) (own_cs l3 q0_ q1_) (own_cs l2 m0_ m1_) (own_cs l4 r0_ r1_))), .val (.int (1 : Int32))] [(.ref t2)])) _
        refine XS.aload X210.here hx rfl (hb hby at_408) rfl rfl ?_
        show Steps p.tables e below (T210.setTop (mkF m 410 #[.val (.int p1), .val (.int p2), .val (.int p3), .val (.int p4), .val (.int p5), .val (.int l1), .val (.int l2), .val (.int l3), .val (.int l4), .val (.int s1), .val (.int s2), .val (.int kd), .val (.int n0_), .val (.int n1_), .val (.int m0_), .val (.int m1_), .val (.int q0_), .val (.int q1_), .val (.int r0_), .val (.int r1_), .val (.ref x0), .val (.ref x1), .val (.ref x2), .val (.ref x3), .val (.ref t1), .val (.int (own_teq (own_cs l1 n0_ n1_) (own_cs l3 q0_ q1_) (own_cs l1 n0_ n1_) (own_cs l3 q0_ q1_))), .val (.ref t2), .val (.int (0 : Int32)), .val (.int (own_teq (own_cs l1 n0_ n1_) (own_cs l3 q0_ q1_) (own_cs l2 m0_ m1_) (own_cs l4 r0_ r1_))), .val (.int (1 : Int32))] [(.ref t1), (.ref t2)])) _
        refine st211.trans ?_
        show Steps p.tables e below (T211.setTop (mkF m 413 #[.val (.int p1), .val (.int p2), .val (.int p3), .val (.int p4), .val (.int p5), .val (.int l1), .val (.int l2), .val (.int l3), .val (.int l4), .val (.int s1), .val (.int s2), .val (.int kd), .val (.int n0_), .val (.int n1_), .val (.int m0_), .val (.int m1_), .val (.int q0_), .val (.int q1_), .val (.int r0_), .val (.int r1_), .val (.ref x0), .val (.ref x1), .val (.ref x2), .val (.ref x3), .val (.ref t1), .val (.int (own_teq (own_cs l1 n0_ n1_) (own_cs l3 q0_ q1_) (own_cs l1 n0_ n1_) (own_cs l3 q0_ q1_))), .val (.ref t2), .val (.int (0 : Int32)), .val (.int (own_teq (own_cs l1 n0_ n1_) (own_cs l3 q0_ q1_) (own_cs l2 m0_ m1_) (own_cs l4 r0_ r1_))), .val (.int (1 : Int32))] [(.int (own_teq (own_cs l2 m0_ m1_) (own_cs l4 r0_ r1_) (own_cs l1 n0_ n1_) (own_cs l3 q0_ q1_)))])) _
        refine XS.iload X211.here hx rfl (hb hby at_413) rfl ?_
        show Steps p.tables e below (T211.setTop (mkF m 415 #[.val (.int p1), .val (.int p2), .val (.int p3), .val (.int p4), .val (.int p5), .val (.int l1), .val (.int l2), .val (.int l3), .val (.int l4), .val (.int s1), .val (.int s2), .val (.int kd), .val (.int n0_), .val (.int n1_), .val (.int m0_), .val (.int m1_), .val (.int q0_), .val (.int q1_), .val (.int r0_), .val (.int r1_), .val (.ref x0), .val (.ref x1), .val (.ref x2), .val (.ref x3), .val (.ref t1), .val (.int (own_teq (own_cs l1 n0_ n1_) (own_cs l3 q0_ q1_) (own_cs l1 n0_ n1_) (own_cs l3 q0_ q1_))), .val (.ref t2), .val (.int (0 : Int32)), .val (.int (own_teq (own_cs l1 n0_ n1_) (own_cs l3 q0_ q1_) (own_cs l2 m0_ m1_) (own_cs l4 r0_ r1_))), .val (.int (1 : Int32))] [(.int (own_teq (own_cs l1 n0_ n1_) (own_cs l3 q0_ q1_) (own_cs l2 m0_ m1_) (own_cs l4 r0_ r1_))), (.int (own_teq (own_cs l2 m0_ m1_) (own_cs l4 r0_ r1_) (own_cs l1 n0_ n1_) (own_cs l3 q0_ q1_)))])) _
        refine XS.icmpNo X211.here hx rfl (hb hby at_415) rfl (teq (own_teqc _ _ _ _)).2 ?_
        show Steps p.tables e below (T211.setTop (mkF m 418 #[.val (.int p1), .val (.int p2), .val (.int p3), .val (.int p4), .val (.int p5), .val (.int l1), .val (.int l2), .val (.int l3), .val (.int l4), .val (.int s1), .val (.int s2), .val (.int kd), .val (.int n0_), .val (.int n1_), .val (.int m0_), .val (.int m1_), .val (.int q0_), .val (.int q1_), .val (.int r0_), .val (.int r1_), .val (.ref x0), .val (.ref x1), .val (.ref x2), .val (.ref x3), .val (.ref t1), .val (.int (own_teq (own_cs l1 n0_ n1_) (own_cs l3 q0_ q1_) (own_cs l1 n0_ n1_) (own_cs l3 q0_ q1_))), .val (.ref t2), .val (.int (0 : Int32)), .val (.int (own_teq (own_cs l1 n0_ n1_) (own_cs l3 q0_ q1_) (own_cs l2 m0_ m1_) (own_cs l4 r0_ r1_))), .val (.int (1 : Int32))] [])) _
        refine XS.iconst X211.here hx rfl (hb hby at_418) ?_
        show Steps p.tables e below (T211.setTop (mkF m 419 #[.val (.int p1), .val (.int p2), .val (.int p3), .val (.int p4), .val (.int p5), .val (.int l1), .val (.int l2), .val (.int l3), .val (.int l4), .val (.int s1), .val (.int s2), .val (.int kd), .val (.int n0_), .val (.int n1_), .val (.int m0_), .val (.int m1_), .val (.int q0_), .val (.int q1_), .val (.int r0_), .val (.int r1_), .val (.ref x0), .val (.ref x1), .val (.ref x2), .val (.ref x3), .val (.ref t1), .val (.int (own_teq (own_cs l1 n0_ n1_) (own_cs l3 q0_ q1_) (own_cs l1 n0_ n1_) (own_cs l3 q0_ q1_))), .val (.ref t2), .val (.int (0 : Int32)), .val (.int (own_teq (own_cs l1 n0_ n1_) (own_cs l3 q0_ q1_) (own_cs l2 m0_ m1_) (own_cs l4 r0_ r1_))), .val (.int (1 : Int32))] [(.int (1 : Int32))])) _
        refine XS.goto X211.here hx rfl (pc0 := 419) (pc' := 423) rfl (hb hby at_419) (by decide) (by decide) ?_
        show Steps p.tables e below (T211.setTop (mkF m 423 #[.val (.int p1), .val (.int p2), .val (.int p3), .val (.int p4), .val (.int p5), .val (.int l1), .val (.int l2), .val (.int l3), .val (.int l4), .val (.int s1), .val (.int s2), .val (.int kd), .val (.int n0_), .val (.int n1_), .val (.int m0_), .val (.int m1_), .val (.int q0_), .val (.int q1_), .val (.int r0_), .val (.int r1_), .val (.ref x0), .val (.ref x1), .val (.ref x2), .val (.ref x3), .val (.ref t1), .val (.int (own_teq (own_cs l1 n0_ n1_) (own_cs l3 q0_ q1_) (own_cs l1 n0_ n1_) (own_cs l3 q0_ q1_))), .val (.ref t2), .val (.int (0 : Int32)), .val (.int (own_teq (own_cs l1 n0_ n1_) (own_cs l3 q0_ q1_) (own_cs l2 m0_ m1_) (own_cs l4 r0_ r1_))), .val (.int (1 : Int32))] [(.int (1 : Int32))])) _
        refine XS.istore X211.here hx rfl (hb hby at_423) rfl (l' := #[.val (.int p1), .val (.int p2), .val (.int p3), .val (.int p4), .val (.int p5), .val (.int l1), .val (.int l2), .val (.int l3), .val (.int l4), .val (.int s1), .val (.int s2), .val (.int kd), .val (.int n0_), .val (.int n1_), .val (.int m0_), .val (.int m1_), .val (.int q0_), .val (.int q1_), .val (.int r0_), .val (.int r1_), .val (.ref x0), .val (.ref x1), .val (.ref x2), .val (.ref x3), .val (.ref t1), .val (.int (own_teq (own_cs l1 n0_ n1_) (own_cs l3 q0_ q1_) (own_cs l1 n0_ n1_) (own_cs l3 q0_ q1_))), .val (.ref t2), .val (.int (0 : Int32)), .val (.int (own_teq (own_cs l1 n0_ n1_) (own_cs l3 q0_ q1_) (own_cs l2 m0_ m1_) (own_cs l4 r0_ r1_))), .val (.int (1 : Int32))]) rfl ?_
        show Steps p.tables e below (T211.setTop (mkF m 425 #[.val (.int p1), .val (.int p2), .val (.int p3), .val (.int p4), .val (.int p5), .val (.int l1), .val (.int l2), .val (.int l3), .val (.int l4), .val (.int s1), .val (.int s2), .val (.int kd), .val (.int n0_), .val (.int n1_), .val (.int m0_), .val (.int m1_), .val (.int q0_), .val (.int q1_), .val (.int r0_), .val (.int r1_), .val (.ref x0), .val (.ref x1), .val (.ref x2), .val (.ref x3), .val (.ref t1), .val (.int (own_teq (own_cs l1 n0_ n1_) (own_cs l3 q0_ q1_) (own_cs l1 n0_ n1_) (own_cs l3 q0_ q1_))), .val (.ref t2), .val (.int (0 : Int32)), .val (.int (own_teq (own_cs l1 n0_ n1_) (own_cs l3 q0_ q1_) (own_cs l2 m0_ m1_) (own_cs l4 r0_ r1_))), .val (.int (1 : Int32))] [])) _
        refine XS.iload X211.here hx rfl (hb hby at_425) rfl ?_
        show Steps p.tables e below (T211.setTop (mkF m 427 #[.val (.int p1), .val (.int p2), .val (.int p3), .val (.int p4), .val (.int p5), .val (.int l1), .val (.int l2), .val (.int l3), .val (.int l4), .val (.int s1), .val (.int s2), .val (.int kd), .val (.int n0_), .val (.int n1_), .val (.int m0_), .val (.int m1_), .val (.int q0_), .val (.int q1_), .val (.int r0_), .val (.int r1_), .val (.ref x0), .val (.ref x1), .val (.ref x2), .val (.ref x3), .val (.ref t1), .val (.int (own_teq (own_cs l1 n0_ n1_) (own_cs l3 q0_ q1_) (own_cs l1 n0_ n1_) (own_cs l3 q0_ q1_))), .val (.ref t2), .val (.int (0 : Int32)), .val (.int (own_teq (own_cs l1 n0_ n1_) (own_cs l3 q0_ q1_) (own_cs l2 m0_ m1_) (own_cs l4 r0_ r1_))), .val (.int (1 : Int32))] [(.int (own_teq (own_cs l1 n0_ n1_) (own_cs l3 q0_ q1_) (own_cs l1 n0_ n1_) (own_cs l3 q0_ q1_)))])) _
        refine XS.ifNo X211.here hx rfl (hb hby at_427) rfl ((if0 _ _).trans (feq (by rw [own_teqs]; decide)).1) ?_
        show Steps p.tables e below (T211.setTop (mkF m 430 #[.val (.int p1), .val (.int p2), .val (.int p3), .val (.int p4), .val (.int p5), .val (.int l1), .val (.int l2), .val (.int l3), .val (.int l4), .val (.int s1), .val (.int s2), .val (.int kd), .val (.int n0_), .val (.int n1_), .val (.int m0_), .val (.int m1_), .val (.int q0_), .val (.int q1_), .val (.int r0_), .val (.int r1_), .val (.ref x0), .val (.ref x1), .val (.ref x2), .val (.ref x3), .val (.ref t1), .val (.int (own_teq (own_cs l1 n0_ n1_) (own_cs l3 q0_ q1_) (own_cs l1 n0_ n1_) (own_cs l3 q0_ q1_))), .val (.ref t2), .val (.int (0 : Int32)), .val (.int (own_teq (own_cs l1 n0_ n1_) (own_cs l3 q0_ q1_) (own_cs l2 m0_ m1_) (own_cs l4 r0_ r1_))), .val (.int (1 : Int32))] [])) _
        refine XS.iload X211.here hx rfl (hb hby at_430) rfl ?_
        show Steps p.tables e below (T211.setTop (mkF m 432 #[.val (.int p1), .val (.int p2), .val (.int p3), .val (.int p4), .val (.int p5), .val (.int l1), .val (.int l2), .val (.int l3), .val (.int l4), .val (.int s1), .val (.int s2), .val (.int kd), .val (.int n0_), .val (.int n1_), .val (.int m0_), .val (.int m1_), .val (.int q0_), .val (.int q1_), .val (.int r0_), .val (.int r1_), .val (.ref x0), .val (.ref x1), .val (.ref x2), .val (.ref x3), .val (.ref t1), .val (.int (own_teq (own_cs l1 n0_ n1_) (own_cs l3 q0_ q1_) (own_cs l1 n0_ n1_) (own_cs l3 q0_ q1_))), .val (.ref t2), .val (.int (0 : Int32)), .val (.int (own_teq (own_cs l1 n0_ n1_) (own_cs l3 q0_ q1_) (own_cs l2 m0_ m1_) (own_cs l4 r0_ r1_))), .val (.int (1 : Int32))] [(.int (own_teq (own_cs l1 n0_ n1_) (own_cs l3 q0_ q1_) (own_cs l2 m0_ m1_) (own_cs l4 r0_ r1_)))])) _
        refine XS.iload X211.here hx rfl (hb hby at_432) rfl ?_
        show Steps p.tables e below (T211.setTop (mkF m 434 #[.val (.int p1), .val (.int p2), .val (.int p3), .val (.int p4), .val (.int p5), .val (.int l1), .val (.int l2), .val (.int l3), .val (.int l4), .val (.int s1), .val (.int s2), .val (.int kd), .val (.int n0_), .val (.int n1_), .val (.int m0_), .val (.int m1_), .val (.int q0_), .val (.int q1_), .val (.int r0_), .val (.int r1_), .val (.ref x0), .val (.ref x1), .val (.ref x2), .val (.ref x3), .val (.ref t1), .val (.int (own_teq (own_cs l1 n0_ n1_) (own_cs l3 q0_ q1_) (own_cs l1 n0_ n1_) (own_cs l3 q0_ q1_))), .val (.ref t2), .val (.int (0 : Int32)), .val (.int (own_teq (own_cs l1 n0_ n1_) (own_cs l3 q0_ q1_) (own_cs l2 m0_ m1_) (own_cs l4 r0_ r1_))), .val (.int (1 : Int32))] [(.int (0 : Int32)), (.int (own_teq (own_cs l1 n0_ n1_) (own_cs l3 q0_ q1_) (own_cs l2 m0_ m1_) (own_cs l4 r0_ r1_)))])) _
        refine XS.icmpNo X211.here hx rfl (hb hby at_434) rfl (teq (by rw [own_teq, if_neg hA])).2 ?_
        show Steps p.tables e below (T211.setTop (mkF m 437 #[.val (.int p1), .val (.int p2), .val (.int p3), .val (.int p4), .val (.int p5), .val (.int l1), .val (.int l2), .val (.int l3), .val (.int l4), .val (.int s1), .val (.int s2), .val (.int kd), .val (.int n0_), .val (.int n1_), .val (.int m0_), .val (.int m1_), .val (.int q0_), .val (.int q1_), .val (.int r0_), .val (.int r1_), .val (.ref x0), .val (.ref x1), .val (.ref x2), .val (.ref x3), .val (.ref t1), .val (.int (own_teq (own_cs l1 n0_ n1_) (own_cs l3 q0_ q1_) (own_cs l1 n0_ n1_) (own_cs l3 q0_ q1_))), .val (.ref t2), .val (.int (0 : Int32)), .val (.int (own_teq (own_cs l1 n0_ n1_) (own_cs l3 q0_ q1_) (own_cs l2 m0_ m1_) (own_cs l4 r0_ r1_))), .val (.int (1 : Int32))] [])) _
        refine XS.iload X211.here hx rfl (hb hby at_437) rfl ?_
        show Steps p.tables e below (T211.setTop (mkF m 439 #[.val (.int p1), .val (.int p2), .val (.int p3), .val (.int p4), .val (.int p5), .val (.int l1), .val (.int l2), .val (.int l3), .val (.int l4), .val (.int s1), .val (.int s2), .val (.int kd), .val (.int n0_), .val (.int n1_), .val (.int m0_), .val (.int m1_), .val (.int q0_), .val (.int q1_), .val (.int r0_), .val (.int r1_), .val (.ref x0), .val (.ref x1), .val (.ref x2), .val (.ref x3), .val (.ref t1), .val (.int (own_teq (own_cs l1 n0_ n1_) (own_cs l3 q0_ q1_) (own_cs l1 n0_ n1_) (own_cs l3 q0_ q1_))), .val (.ref t2), .val (.int (0 : Int32)), .val (.int (own_teq (own_cs l1 n0_ n1_) (own_cs l3 q0_ q1_) (own_cs l2 m0_ m1_) (own_cs l4 r0_ r1_))), .val (.int (1 : Int32))] [(.int (1 : Int32))])) _
        refine XS.ifNo X211.here hx rfl (hb hby at_439) rfl ((if0 _ _).trans (feq (by decide : ¬ (1 : Int32) = 0)).1) ?_
        show Steps p.tables e below (T211.setTop (mkF m 442 #[.val (.int p1), .val (.int p2), .val (.int p3), .val (.int p4), .val (.int p5), .val (.int l1), .val (.int l2), .val (.int l3), .val (.int l4), .val (.int s1), .val (.int s2), .val (.int kd), .val (.int n0_), .val (.int n1_), .val (.int m0_), .val (.int m1_), .val (.int q0_), .val (.int q1_), .val (.int r0_), .val (.int r1_), .val (.ref x0), .val (.ref x1), .val (.ref x2), .val (.ref x3), .val (.ref t1), .val (.int (own_teq (own_cs l1 n0_ n1_) (own_cs l3 q0_ q1_) (own_cs l1 n0_ n1_) (own_cs l3 q0_ q1_))), .val (.ref t2), .val (.int (0 : Int32)), .val (.int (own_teq (own_cs l1 n0_ n1_) (own_cs l3 q0_ q1_) (own_cs l2 m0_ m1_) (own_cs l4 r0_ r1_))), .val (.int (1 : Int32))] [])) _
        refine XS.iconst X211.here hx rfl (hb hby at_442) ?_
        show Steps p.tables e below (T211.setTop (mkF m 443 #[.val (.int p1), .val (.int p2), .val (.int p3), .val (.int p4), .val (.int p5), .val (.int l1), .val (.int l2), .val (.int l3), .val (.int l4), .val (.int s1), .val (.int s2), .val (.int kd), .val (.int n0_), .val (.int n1_), .val (.int m0_), .val (.int m1_), .val (.int q0_), .val (.int q1_), .val (.int r0_), .val (.int r1_), .val (.ref x0), .val (.ref x1), .val (.ref x2), .val (.ref x3), .val (.ref t1), .val (.int (own_teq (own_cs l1 n0_ n1_) (own_cs l3 q0_ q1_) (own_cs l1 n0_ n1_) (own_cs l3 q0_ q1_))), .val (.ref t2), .val (.int (0 : Int32)), .val (.int (own_teq (own_cs l1 n0_ n1_) (own_cs l3 q0_ q1_) (own_cs l2 m0_ m1_) (own_cs l4 r0_ r1_))), .val (.int (1 : Int32))] [(.int (1 : Int32))])) _
        refine XS.goto X211.here hx rfl (pc0 := 443) (pc' := 447) rfl (hb hby at_443) (by decide) (by decide) ?_
        exact k_)
      obtain ⟨fs, hr, hrun, hended, hWr, hW1, hW2, hsame⟩ := Jvm.Stand.leaveW (s := s) X211 hS188' (by rw [e211]; exact (Nat.le_refl _)) (v := some (.int (1 : Int32))) (fun h => by rw [Bd.returns] at h; cases h)
      refine ⟨_, _, pre212 _ ?_, hrun, hended, _, _, rfl, ?_, hWr, hW1, hW2, hsame.mono (by decide) (by decide)⟩
      · show Steps p.tables e below (T211.setTop (mkF m 447 #[.val (.int p1), .val (.int p2), .val (.int p3), .val (.int p4), .val (.int p5), .val (.int l1), .val (.int l2), .val (.int l3), .val (.int l4), .val (.int s1), .val (.int s2), .val (.int kd), .val (.int n0_), .val (.int n1_), .val (.int m0_), .val (.int m1_), .val (.int q0_), .val (.int q1_), .val (.int r0_), .val (.int r1_), .val (.ref x0), .val (.ref x1), .val (.ref x2), .val (.ref x3), .val (.ref t1), .val (.int (own_teq (own_cs l1 n0_ n1_) (own_cs l3 q0_ q1_) (own_cs l1 n0_ n1_) (own_cs l3 q0_ q1_))), .val (.ref t2), .val (.int (0 : Int32)), .val (.int (own_teq (own_cs l1 n0_ n1_) (own_cs l3 q0_ q1_) (own_cs l2 m0_ m1_) (own_cs l4 r0_ r1_))), .val (.int (1 : Int32))] [(.int (1 : Int32))])) _
        exact retN X211 hx (t := .boolean) Bd.returns (by simp) (hb hby at_447) hr
      · show Qrm0 Z p1 p2 p3 p4 p5 zc h0 n0 _ T211.heap _
        rw [e211]
        exact ⟨rfl, N211⟩
  · skip
    obtain ⟨T213, h213, X213, e213, Ext_t2, E_t2, D_t2, -, st213⟩ := newO X178 hx hZ170 hown170 (hw _ (List.mem_of_getElem? (i := 26) rfl)) (hw _ (List.mem_of_getElem? (i := 27) rfl)) (hw _ (List.mem_of_getElem? (i := 28) rfl)) e178 (g := (mkF m 332 #[.val (.int p1), .val (.int p2), .val (.int p3), .val (.int p4), .val (.int p5), .val (.int l1), .val (.int l2), .val (.int l3), .val (.int l4), .val (.int s1), .val (.int s2), .val (.int kd), .val (.int n0_), .val (.int n1_), .val (.int m0_), .val (.int m1_), .val (.int q0_), .val (.int q1_), .val (.int r0_), .val (.int r1_), .val (.ref x0), .val (.ref x1), .val (.ref x2), .val (.ref x3), .val (.ref t1), .val (.int (own_teq (own_cs l1 n0_ n1_) (own_cs l3 q0_ q1_) (own_cs l1 n0_ n1_) (own_cs l3 q0_ q1_))), .unset, .unset, .unset, .unset] [])) rfl (hb hby at_332) (by decide) (by decide)
    obtain ⟨t2, eq_t2⟩ : ∃ z, z = T170.heap.size := ⟨_, rfl⟩
    rw [← eq_t2] at E_t2 D_t2 st213
    have g_t2 : n0 ≤ t2 := Nat.le_trans Z176 (Nat.le_of_eq eq_t2.symm)
    have O_214 := O_177.ext Ext_t2
    have ne_t1_t2 : t1 ≠ t2 := Nat.ne_of_lt (Nat.lt_of_lt_of_le E170.lt (Nat.le_of_eq eq_t2.symm))
    have E_t1_215 := E170.ext Ext_t2
    have F0_t1_216 := F0170.ext Ext_t2
    have F1_t1_217 := F1170.ext Ext_t2
    have Z218 : n0 ≤ h213.size := Nat.le_trans Z176 (Ext_t2.1)
    have hk219 := Nat.le_trans (Nat.le_refl _) (Ext_t2.1)
    have F0_t2 : Fld Z h213 t2 "com/example/cranfield/cranfield/model/Topic" "number" "Ljava/lang/String;" .null := D_t2 (Or.inr (hw _ (List.mem_of_getElem? (i := 40) rfl))) (ty := (.object "java/lang/String")) (by decide)
    have F1_t2 : Fld Z h213 t2 "com/example/cranfield/cranfield/model/Topic" "query" "Ljava/lang/String;" .null := D_t2 (Or.inr (hw _ (List.mem_of_getElem? (i := 43) rfl))) (ty := (.object "java/lang/String")) (by decide)
    obtain ⟨_, _, ⟨T220, L220, k220, n220⟩, -, X220, hS220, hle220, ⟨Lc220, hQ220, l220, y220, z220⟩, st220⟩ := Jvm.Stand.specialBackS (s := (s.setVm T170.vm)) X213 hx (y := (⟨"com/example/cranfield/cranfield/model/Topic", "<init>", "(Ljava/lang/String;Ljava/lang/String;)V"⟩ : MethodName)) rfl hown170 (mvT hZ170 (hw _ (List.mem_of_getElem? (i := 29) rfl))) (mvT hZ170 (hw _ (List.mem_of_getElem? (i := 30) rfl))) (mvT hZ170 (hw _ (List.mem_of_getElem? (i := 31) rfl))) (by decide) (backOfS (W := 1) (rmC l Z a0 hw [] t2 x1 x3 h213 n0 Z218 E_t2 F0_t2 F1_t2 g_t2 ((own_Stre T_172).ext Ext_t2) ((own_Stre T_174).ext Ext_t2)) hZ170 (hw _ (List.mem_of_getElem? (i := 31) rfl)) (hw _ (List.mem_of_getElem? (i := 28) rfl)) (by decide) (by decide)) (g := (mkF m 340 #[.val (.int p1), .val (.int p2), .val (.int p3), .val (.int p4), .val (.int p5), .val (.int l1), .val (.int l2), .val (.int l3), .val (.int l4), .val (.int s1), .val (.int s2), .val (.int kd), .val (.int n0_), .val (.int n1_), .val (.int m0_), .val (.int m1_), .val (.int q0_), .val (.int q1_), .val (.int r0_), .val (.int r1_), .val (.ref x0), .val (.ref x1), .val (.ref x2), .val (.ref x3), .val (.ref t1), .val (.int (own_teq (own_cs l1 n0_ n1_) (own_cs l3 q0_ q1_) (own_cs l1 n0_ n1_) (own_cs l3 q0_ q1_))), .unset, .unset, .unset, .unset] [(.ref x3), (.ref x1), (.ref t2), (.ref t2)])) rfl (by rw [hml]; rfl) (Steps.refl _) (a := t2) (argsL := [(.ref x1), (.ref x3)]) (rest := [(.ref t2)]) (lenOf pd_5 rfl) rfl (by show 2 * 0 + _ ≤ _; exact Nat.le_of_eq rfl) (hb hby at_340) (fun _ _ => ⟨rfl, e213, (by decide : 30 + 4 ≤ _), (by decide : 104 + 52 ≤ _)⟩)
    dsimp only [Pt.U, Pt.locs, Pt.cells, Pt.slots] at X220 l220 y220 z220 st220 hQ220 hS220 hle220
    subst l220 y220 z220
    have hle220' : h213.size ≤ T220.heap.size := by have q := hle220; rw [e213] at q; exact q
    obtain ⟨X220', hS220', hZ220, hown220⟩ := rebS (s := s) (vm0 := T170.vm) hS170' hk219 X220 hS220 hle220' hZ170 hown170
    obtain ⟨rfl, N220q, K220, E220, F0220, F1220⟩ := hQ220
    have N220 := Fr.app N178 N220q
    have KF220 := ((Keep.refl T170.heap []).ext Ext_t2).trans K220 (allS (Or.inr (Nat.le_of_eq eq_t2.symm)) all0)
    have T_221 := own_Strk T_171 KF220
    have T_222 := own_Strk T_172 KF220
    have T_223 := own_Strk T_173 KF220
    have T_224 := own_Strk T_174 KF220
    have E_t1_226 := E_t1_215.keep K220
    have F0_t1_227 := F0_t1_216.keep K220 (ninS ne_t1_t2 nin0)
    have F1_t1_228 := F1_t1_217.keep K220 (ninS ne_t1_t2 nin0)
    have Z230 : n0 ≤ T220.heap.size := Nat.le_trans Z218 (K220.1)
    have O_231 := O_214.keep K220 (allS g_t2 all0)
    obtain ⟨_, _, ⟨T232, L232, k232, n232⟩, -, X232, ⟨Lc232, hQ232, l232, y232, z232⟩, st232⟩ := Jvm.LawKit.callS X220' hx (y := (⟨"com/example/cranfield/cranfield/model/TopicEqualsPinLaw", "same", "(ICCICC)Z"⟩ : MethodName)) hown220 (mvT hZ220 (hw _ (List.mem_of_getElem? (i := 56) rfl))) (mvT hZ220 (hw _ (List.mem_of_getElem? (i := 57) rfl))) (mvT hZ220 (hw _ (List.mem_of_getElem? (i := 2) rfl))) (mvT hZ220 (hw _ (List.mem_of_getElem? (i := 58) rfl))) (by decide) (backOf (W := 0) (rmSame l Z a0 hw [] l1 n0_ n1_ l2 m0_ m1_ T220.heap n0 Z230 h1 hj_l2) hZ220 (hw _ (List.mem_of_getElem? (i := 58) rfl)) (hw _ (List.mem_of_getElem? (i := 2) rfl)) (by decide) (by decide)) (g := (mkF m 357 #[.val (.int p1), .val (.int p2), .val (.int p3), .val (.int p4), .val (.int p5), .val (.int l1), .val (.int l2), .val (.int l3), .val (.int l4), .val (.int s1), .val (.int s2), .val (.int kd), .val (.int n0_), .val (.int n1_), .val (.int m0_), .val (.int m1_), .val (.int q0_), .val (.int q1_), .val (.int r0_), .val (.int r1_), .val (.ref x0), .val (.ref x1), .val (.ref x2), .val (.ref x3), .val (.ref t1), .val (.int (own_teq (own_cs l1 n0_ n1_) (own_cs l3 q0_ q1_) (own_cs l1 n0_ n1_) (own_cs l3 q0_ q1_))), .val (.ref t2), .unset, .unset, .unset] [(.int m1_), (.int m0_), (.int l2), (.int n1_), (.int n0_), (.int l1)])) rfl (by rw [hml]; rfl) (argsL := [(.int l1), (.int n0_), (.int n1_), (.int l2), (.int m0_), (.int m1_)]) (rest := []) (lenOf pd_6 rfl) rfl (by show 2 * 0 + _ ≤ _; exact Nat.le_of_eq rfl) (hb hby at_357) (fun _ _ => ⟨rfl, rfl, (by decide : 34 + 0 ≤ _), (by decide : 156 + 0 ≤ _)⟩)
    dsimp only [Pt.U, Pt.locs, Pt.cells, Pt.slots] at X232 l232 y232 z232 st232 hQ232
    subst l232 y232 z232
    obtain ⟨rfl, N232q, e232⟩ := hQ232
    have N232 := Fr.app N220 N232q
    have pre233 : ∀ t_, Steps p.tables e below (T232.setTop (mkF m 360 #[.val (.int p1), .val (.int p2), .val (.int p3), .val (.int p4), .val (.int p5), .val (.int l1), .val (.int l2), .val (.int l3), .val (.int l4), .val (.int s1), .val (.int s2), .val (.int kd), .val (.int n0_), .val (.int n1_), .val (.int m0_), .val (.int m1_), .val (.int q0_), .val (.int q1_), .val (.int r0_), .val (.int r1_), .val (.ref x0), .val (.ref x1), .val (.ref x2), .val (.ref x3), .val (.ref t1), .val (.int (own_teq (own_cs l1 n0_ n1_) (own_cs l3 q0_ q1_) (own_cs l1 n0_ n1_) (own_cs l3 q0_ q1_))), .val (.ref t2), .unset, .unset, .unset] [(.int (if own_cs l1 n0_ n1_ = own_cs l2 m0_ m1_ then (1 : Int32) else 0))])) t_ → Steps p.tables e below (s₁.setTop (entryFrame m #[(.int p1), (.int p2), (.int p3), (.int p4), (.int p5)] maxLocals)) t_ := fun t_ k_ => pre180 _ (by
      show Steps p.tables e below (T178.setTop (mkF m 304 #[.val (.int p1), .val (.int p2), .val (.int p3), .val (.int p4), .val (.int p5), .val (.int l1), .val (.int l2), .val (.int l3), .val (.int l4), .val (.int s1), .val (.int s2), .val (.int kd), .val (.int n0_), .val (.int n1_), .val (.int m0_), .val (.int m1_), .val (.int q0_), .val (.int q1_), .val (.int r0_), .val (.int r1_), .val (.ref x0), .val (.ref x1), .val (.ref x2), .val (.ref x3), .val (.ref t1), .val (.int (own_teq (own_cs l1 n0_ n1_) (own_cs l3 q0_ q1_) (own_cs l1 n0_ n1_) (own_cs l3 q0_ q1_))), .unset, .unset, .unset, .unset] [(.int (2 : Int32)), (.int kd)])) _
      refine XS.icmpYes X178.here hx rfl (pc0 := 304) (pc' := 316) rfl (hb hby at_304) rfl (feq (by rw [q]; decide)).2 (by decide) (by decide) ?_
      show Steps p.tables e below (T178.setTop (mkF m 316 #[.val (.int p1), .val (.int p2), .val (.int p3), .val (.int p4), .val (.int p5), .val (.int l1), .val (.int l2), .val (.int l3), .val (.int l4), .val (.int s1), .val (.int s2), .val (.int kd), .val (.int n0_), .val (.int n1_), .val (.int m0_), .val (.int m1_), .val (.int q0_), .val (.int q1_), .val (.int r0_), .val (.int r1_), .val (.ref x0), .val (.ref x1), .val (.ref x2), .val (.ref x3), .val (.ref t1), .val (.int (own_teq (own_cs l1 n0_ n1_) (own_cs l3 q0_ q1_) (own_cs l1 n0_ n1_) (own_cs l3 q0_ q1_))), .unset, .unset, .unset, .unset] [])) _
      refine XS.iload X178.here hx rfl (hb hby at_316) rfl ?_
      show Steps p.tables e below (T178.setTop (mkF m 318 #[.val (.int p1), .val (.int p2), .val (.int p3), .val (.int p4), .val (.int p5), .val (.int l1), .val (.int l2), .val (.int l3), .val (.int l4), .val (.int s1), .val (.int s2), .val (.int kd), .val (.int n0_), .val (.int n1_), .val (.int m0_), .val (.int m1_), .val (.int q0_), .val (.int q1_), .val (.int r0_), .val (.int r1_), .val (.ref x0), .val (.ref x1), .val (.ref x2), .val (.ref x3), .val (.ref t1), .val (.int (own_teq (own_cs l1 n0_ n1_) (own_cs l3 q0_ q1_) (own_cs l1 n0_ n1_) (own_cs l3 q0_ q1_))), .unset, .unset, .unset, .unset] [(.int kd)])) _
      refine XS.iconst X178.here hx rfl (hb hby at_318) ?_
      show Steps p.tables e below (T178.setTop (mkF m 319 #[.val (.int p1), .val (.int p2), .val (.int p3), .val (.int p4), .val (.int p5), .val (.int l1), .val (.int l2), .val (.int l3), .val (.int l4), .val (.int s1), .val (.int s2), .val (.int kd), .val (.int n0_), .val (.int n1_), .val (.int m0_), .val (.int m1_), .val (.int q0_), .val (.int q1_), .val (.int r0_), .val (.int r1_), .val (.ref x0), .val (.ref x1), .val (.ref x2), .val (.ref x3), .val (.ref t1), .val (.int (own_teq (own_cs l1 n0_ n1_) (own_cs l3 q0_ q1_) (own_cs l1 n0_ n1_) (own_cs l3 q0_ q1_))), .unset, .unset, .unset, .unset] [(.int (3 : Int32)), (.int kd)])) _
      refine XS.icmpYes X178.here hx rfl (pc0 := 319) (pc' := 332) rfl (hb hby at_319) rfl (feq (by rw [q]; decide)).2 (by decide) (by decide) ?_
      show Steps p.tables e below (T178.setTop (mkF m 332 #[.val (.int p1), .val (.int p2), .val (.int p3), .val (.int p4), .val (.int p5), .val (.int l1), .val (.int l2), .val (.int l3), .val (.int l4), .val (.int s1), .val (.int s2), .val (.int kd), .val (.int n0_), .val (.int n1_), .val (.int m0_), .val (.int m1_), .val (.int q0_), .val (.int q1_), .val (.int r0_), .val (.int r1_), .val (.ref x0), .val (.ref x1), .val (.ref x2), .val (.ref x3), .val (.ref t1), .val (.int (own_teq (own_cs l1 n0_ n1_) (own_cs l3 q0_ q1_) (own_cs l1 n0_ n1_) (own_cs l3 q0_ q1_))), .unset, .unset, .unset, .unset] [])) _
      refine st213 _ ?_
      show Steps p.tables e below (T213.setTop (mkF m 335 #[.val (.int p1), .val (.int p2), .val (.int p3), .val (.int p4), .val (.int p5), .val (.int l1), .val (.int l2), .val (.int l3), .val (.int l4), .val (.int s1), .val (.int s2), .val (.int kd), .val (.int n0_), .val (.int n1_), .val (.int m0_), .val (.int m1_), .val (.int q0_), .val (.int q1_), .val (.int r0_), .val (.int r1_), .val (.ref x0), .val (.ref x1), .val (.ref x2), .val (.ref x3), .val (.ref t1), .val (.int (own_teq (own_cs l1 n0_ n1_) (own_cs l3 q0_ q1_) (own_cs l1 n0_ n1_) (own_cs l3 q0_ q1_))), .unset, .unset, .unset, .unset] [(.ref t2)])) _
      refine XS.dup X213.here hx rfl (hb hby at_335) rfl rfl ?_
      show Steps p.tables e below (T213.setTop (mkF m 336 #[.val (.int p1), .val (.int p2), .val (.int p3), .val (.int p4), .val (.int p5), .val (.int l1), .val (.int l2), .val (.int l3), .val (.int l4), .val (.int s1), .val (.int s2), .val (.int kd), .val (.int n0_), .val (.int n1_), .val (.int m0_), .val (.int m1_), .val (.int q0_), .val (.int q1_), .val (.int r0_), .val (.int r1_), .val (.ref x0), .val (.ref x1), .val (.ref x2), .val (.ref x3), .val (.ref t1), .val (.int (own_teq (own_cs l1 n0_ n1_) (own_cs l3 q0_ q1_) (own_cs l1 n0_ n1_) (own_cs l3 q0_ q1_))), .unset, .unset, .unset, .unset] [(.ref t2), (.ref t2)])) _
      refine XS.aload X213.here hx rfl (hb hby at_336) rfl rfl ?_
      show Steps p.tables e below (T213.setTop (mkF m 338 #[.val (.int p1), .val (.int p2), .val (.int p3), .val (.int p4), .val (.int p5), .val (.int l1), .val (.int l2), .val (.int l3), .val (.int l4), .val (.int s1), .val (.int s2), .val (.int kd), .val (.int n0_), .val (.int n1_), .val (.int m0_), .val (.int m1_), .val (.int q0_), .val (.int q1_), .val (.int r0_), .val (.int r1_), .val (.ref x0), .val (.ref x1), .val (.ref x2), .val (.ref x3), .val (.ref t1), .val (.int (own_teq (own_cs l1 n0_ n1_) (own_cs l3 q0_ q1_) (own_cs l1 n0_ n1_) (own_cs l3 q0_ q1_))), .unset, .unset, .unset, .unset] [(.ref x1), (.ref t2), (.ref t2)])) _
      refine XS.aload X213.here hx rfl (hb hby at_338) rfl rfl ?_
      show Steps p.tables e below (T213.setTop (mkF m 340 #[.val (.int p1), .val (.int p2), .val (.int p3), .val (.int p4), .val (.int p5), .val (.int l1), .val (.int l2), .val (.int l3), .val (.int l4), .val (.int s1), .val (.int s2), .val (.int kd), .val (.int n0_), .val (.int n1_), .val (.int m0_), .val (.int m1_), .val (.int q0_), .val (.int q1_), .val (.int r0_), .val (.int r1_), .val (.ref x0), .val (.ref x1), .val (.ref x2), .val (.ref x3), .val (.ref t1), .val (.int (own_teq (own_cs l1 n0_ n1_) (own_cs l3 q0_ q1_) (own_cs l1 n0_ n1_) (own_cs l3 q0_ q1_))), .unset, .unset, .unset, .unset] [(.ref x3), (.ref x1), (.ref t2), (.ref t2)])) _
      refine st220.trans ?_
      show Steps p.tables e below (T220.setTop (mkF m 343 #[.val (.int p1), .val (.int p2), .val (.int p3), .val (.int p4), .val (.int p5), .val (.int l1), .val (.int l2), .val (.int l3), .val (.int l4), .val (.int s1), .val (.int s2), .val (.int kd), .val (.int n0_), .val (.int n1_), .val (.int m0_), .val (.int m1_), .val (.int q0_), .val (.int q1_), .val (.int r0_), .val (.int r1_), .val (.ref x0), .val (.ref x1), .val (.ref x2), .val (.ref x3), .val (.ref t1), .val (.int (own_teq (own_cs l1 n0_ n1_) (own_cs l3 q0_ q1_) (own_cs l1 n0_ n1_) (own_cs l3 q0_ q1_))), .unset, .unset, .unset, .unset] [(.ref t2)])) _
      refine XS.astore X220'.here hx rfl (hb hby at_343) rfl rfl (l' := #[.val (.int p1), .val (.int p2), .val (.int p3), .val (.int p4), .val (.int p5), .val (.int l1), .val (.int l2), .val (.int l3), .val (.int l4), .val (.int s1), .val (.int s2), .val (.int kd), .val (.int n0_), .val (.int n1_), .val (.int m0_), .val (.int m1_), .val (.int q0_), .val (.int q1_), .val (.int r0_), .val (.int r1_), .val (.ref x0), .val (.ref x1), .val (.ref x2), .val (.ref x3), .val (.ref t1), .val (.int (own_teq (own_cs l1 n0_ n1_) (own_cs l3 q0_ q1_) (own_cs l1 n0_ n1_) (own_cs l3 q0_ q1_))), .val (.ref t2), .unset, .unset, .unset]) rfl ?_
      show Steps p.tables e below (T220.setTop (mkF m 345 #[.val (.int p1), .val (.int p2), .val (.int p3), .val (.int p4), .val (.int p5), .val (.int l1), .val (.int l2), .val (.int l3), .val (.int l4), .val (.int s1), .val (.int s2), .val (.int kd), .val (.int n0_), .val (.int n1_), .val (.int m0_), .val (.int m1_), .val (.int q0_), .val (.int q1_), .val (.int r0_), .val (.int r1_), .val (.ref x0), .val (.ref x1), .val (.ref x2), .val (.ref x3), .val (.ref t1), .val (.int (own_teq (own_cs l1 n0_ n1_) (own_cs l3 q0_ q1_) (own_cs l1 n0_ n1_) (own_cs l3 q0_ q1_))), .val (.ref t2), .unset, .unset, .unset] [])) _
      refine XS.iload X220'.here hx rfl (hb hby at_345) rfl ?_
      show Steps p.tables e below (T220.setTop (mkF m 347 #[.val (.int p1), .val (.int p2), .val (.int p3), .val (.int p4), .val (.int p5), .val (.int l1), .val (.int l2), .val (.int l3), .val (.int l4), .val (.int s1), .val (.int s2), .val (.int kd), .val (.int n0_), .val (.int n1_), .val (.int m0_), .val (.int m1_), .val (.int q0_), .val (.int q1_), .val (.int r0_), .val (.int r1_), .val (.ref x0), .val (.ref x1), .val (.ref x2), .val (.ref x3), .val (.ref t1), .val (.int (own_teq (own_cs l1 n0_ n1_) (own_cs l3 q0_ q1_) (own_cs l1 n0_ n1_) (own_cs l3 q0_ q1_))), .val (.ref t2), .unset, .unset, .unset] [(.int l1)])) _
      refine XS.iload X220'.here hx rfl (hb hby at_347) rfl ?_
      show Steps p.tables e below (T220.setTop (mkF m 349 #[.val (.int p1), .val (.int p2), .val (.int p3), .val (.int p4), .val (.int p5), .val (.int l1), .val (.int l2), .val (.int l3), .val (.int l4), .val (.int s1), .val (.int s2), .val (.int kd), .val (.int n0_), .val (.int n1_), .val (.int m0_), .val (.int m1_), .val (.int q0_), .val (.int q1_), .val (.int r0_), .val (.int r1_), .val (.ref x0), .val (.ref x1), .val (.ref x2), .val (.ref x3), .val (.ref t1), .val (.int (own_teq (own_cs l1 n0_ n1_) (own_cs l3 q0_ q1_) (own_cs l1 n0_ n1_) (own_cs l3 q0_ q1_))), .val (.ref t2), .unset, .unset, .unset] [(.int n0_), (.int l1)])) _
      refine XS.iload X220'.here hx rfl (hb hby at_349) rfl ?_
      show Steps p.tables e below (T220.setTop (mkF m 351 #[.val (.int p1), .val (.int p2), .val (.int p3), .val (.int p4), .val (.int p5), .val (.int l1), .val (.int l2), .val (.int l3), .val (.int l4), .val (.int s1), .val (.int s2), .val (.int kd), .val (.int n0_), .val (.int n1_), .val (.int m0_), .val (.int m1_), .val (.int q0_), .val (.int q1_), .val (.int r0_), .val (.int r1_), .val (.ref x0), .val (.ref x1), .val (.ref x2), .val (.ref x3), .val (.ref t1), .val (.int (own_teq (own_cs l1 n0_ n1_) (own_cs l3 q0_ q1_) (own_cs l1 n0_ n1_) (own_cs l3 q0_ q1_))), .val (.ref t2), .unset, .unset, .unset] [(.int n1_), (.int n0_), (.int l1)])) _
      refine XS.iload X220'.here hx rfl (hb hby at_351) rfl ?_
      show Steps p.tables e below (T220.setTop (mkF m 353 #[.val (.int p1), .val (.int p2), .val (.int p3), .val (.int p4), .val (.int p5), .val (.int l1), .val (.int l2), .val (.int l3), .val (.int l4), .val (.int s1), .val (.int s2), .val (.int kd), .val (.int n0_), .val (.int n1_), .val (.int m0_), .val (.int m1_), .val (.int q0_), .val (.int q1_), .val (.int r0_), .val (.int r1_), .val (.ref x0), .val (.ref x1), .val (.ref x2), .val (.ref x3), .val (.ref t1), .val (.int (own_teq (own_cs l1 n0_ n1_) (own_cs l3 q0_ q1_) (own_cs l1 n0_ n1_) (own_cs l3 q0_ q1_))), .val (.ref t2), .unset, .unset, .unset] [(.int l2), (.int n1_), (.int n0_), (.int l1)])) _
      refine XS.iload X220'.here hx rfl (hb hby at_353) rfl ?_
      show Steps p.tables e below (T220.setTop (mkF m 355 #[.val (.int p1), .val (.int p2), .val (.int p3), .val (.int p4), .val (.int p5), .val (.int l1), .val (.int l2), .val (.int l3), .val (.int l4), .val (.int s1), .val (.int s2), .val (.int kd), .val (.int n0_), .val (.int n1_), .val (.int m0_), .val (.int m1_), .val (.int q0_), .val (.int q1_), .val (.int r0_), .val (.int r1_), .val (.ref x0), .val (.ref x1), .val (.ref x2), .val (.ref x3), .val (.ref t1), .val (.int (own_teq (own_cs l1 n0_ n1_) (own_cs l3 q0_ q1_) (own_cs l1 n0_ n1_) (own_cs l3 q0_ q1_))), .val (.ref t2), .unset, .unset, .unset] [(.int m0_), (.int l2), (.int n1_), (.int n0_), (.int l1)])) _
      refine XS.iload X220'.here hx rfl (hb hby at_355) rfl ?_
      show Steps p.tables e below (T220.setTop (mkF m 357 #[.val (.int p1), .val (.int p2), .val (.int p3), .val (.int p4), .val (.int p5), .val (.int l1), .val (.int l2), .val (.int l3), .val (.int l4), .val (.int s1), .val (.int s2), .val (.int kd), .val (.int n0_), .val (.int n1_), .val (.int m0_), .val (.int m1_), .val (.int q0_), .val (.int q1_), .val (.int r0_), .val (.int r1_), .val (.ref x0), .val (.ref x1), .val (.ref x2), .val (.ref x3), .val (.ref t1), .val (.int (own_teq (own_cs l1 n0_ n1_) (own_cs l3 q0_ q1_) (own_cs l1 n0_ n1_) (own_cs l3 q0_ q1_))), .val (.ref t2), .unset, .unset, .unset] [(.int m1_), (.int m0_), (.int l2), (.int n1_), (.int n0_), (.int l1)])) _
      refine st232 _ ?_
      exact k_)
    by_cases hA : (own_cs l1 n0_ n1_) = (own_cs l2 m0_ m1_)
    · skip
      obtain ⟨_, _, ⟨T234, L234, k234, n234⟩, -, X234, ⟨Lc234, hQ234, l234, y234, z234⟩, st234⟩ := Jvm.LawKit.callS X232 hx (y := (⟨"com/example/cranfield/cranfield/model/TopicEqualsPinLaw", "same", "(ICCICC)Z"⟩ : MethodName)) hown220 (mvT hZ220 (hw _ (List.mem_of_getElem? (i := 56) rfl))) (mvT hZ220 (hw _ (List.mem_of_getElem? (i := 57) rfl))) (mvT hZ220 (hw _ (List.mem_of_getElem? (i := 2) rfl))) (mvT hZ220 (hw _ (List.mem_of_getElem? (i := 58) rfl))) (by decide) (backOf (W := 0) (rmSame l Z a0 hw [] l3 q0_ q1_ l4 r0_ r1_ T220.heap n0 Z230 h3 hj_l4) hZ220 (hw _ (List.mem_of_getElem? (i := 58) rfl)) (hw _ (List.mem_of_getElem? (i := 2) rfl)) (by decide) (by decide)) (g := (mkF m 375 #[.val (.int p1), .val (.int p2), .val (.int p3), .val (.int p4), .val (.int p5), .val (.int l1), .val (.int l2), .val (.int l3), .val (.int l4), .val (.int s1), .val (.int s2), .val (.int kd), .val (.int n0_), .val (.int n1_), .val (.int m0_), .val (.int m1_), .val (.int q0_), .val (.int q1_), .val (.int r0_), .val (.int r1_), .val (.ref x0), .val (.ref x1), .val (.ref x2), .val (.ref x3), .val (.ref t1), .val (.int (own_teq (own_cs l1 n0_ n1_) (own_cs l3 q0_ q1_) (own_cs l1 n0_ n1_) (own_cs l3 q0_ q1_))), .val (.ref t2), .unset, .unset, .unset] [(.int r1_), (.int r0_), (.int l4), (.int q1_), (.int q0_), (.int l3)])) rfl (by rw [hml]; rfl) (argsL := [(.int l3), (.int q0_), (.int q1_), (.int l4), (.int r0_), (.int r1_)]) (rest := []) (lenOf pd_6 rfl) rfl (by show 2 * 0 + _ ≤ _; exact Nat.le_of_eq rfl) (hb hby at_375) (fun _ _ => ⟨rfl, e232, (by decide : 34 + 0 ≤ _), (by decide : 156 + 0 ≤ _)⟩)
      dsimp only [Pt.U, Pt.locs, Pt.cells, Pt.slots] at X234 l234 y234 z234 st234 hQ234
      subst l234 y234 z234
      obtain ⟨rfl, N234q, e234⟩ := hQ234
      have N234 := Fr.app N232 N234q
      have pre235 : ∀ t_, Steps p.tables e below (T234.setTop (mkF m 378 #[.val (.int p1), .val (.int p2), .val (.int p3), .val (.int p4), .val (.int p5), .val (.int l1), .val (.int l2), .val (.int l3), .val (.int l4), .val (.int s1), .val (.int s2), .val (.int kd), .val (.int n0_), .val (.int n1_), .val (.int m0_), .val (.int m1_), .val (.int q0_), .val (.int q1_), .val (.int r0_), .val (.int r1_), .val (.ref x0), .val (.ref x1), .val (.ref x2), .val (.ref x3), .val (.ref t1), .val (.int (own_teq (own_cs l1 n0_ n1_) (own_cs l3 q0_ q1_) (own_cs l1 n0_ n1_) (own_cs l3 q0_ q1_))), .val (.ref t2), .unset, .unset, .unset] [(.int (if own_cs l3 q0_ q1_ = own_cs l4 r0_ r1_ then (1 : Int32) else 0))])) t_ → Steps p.tables e below (s₁.setTop (entryFrame m #[(.int p1), (.int p2), (.int p3), (.int p4), (.int p5)] maxLocals)) t_ := fun t_ k_ => pre233 _ (by
        show Steps p.tables e below (T232.setTop (mkF m 360 #[.val (.int p1), .val (.int p2), .val (.int p3), .val (.int p4), .val (.int p5), .val (.int l1), .val (.int l2), .val (.int l3), .val (.int l4), .val (.int s1), .val (.int s2), .val (.int kd), .val (.int n0_), .val (.int n1_), .val (.int m0_), .val (.int m1_), .val (.int q0_), .val (.int q1_), .val (.int r0_), .val (.int r1_), .val (.ref x0), .val (.ref x1), .val (.ref x2), .val (.ref x3), .val (.ref t1), .val (.int (own_teq (own_cs l1 n0_ n1_) (own_cs l3 q0_ q1_) (own_cs l1 n0_ n1_) (own_cs l3 q0_ q1_))), .val (.ref t2), .unset, .unset, .unset] [(.int (if own_cs l1 n0_ n1_ = own_cs l2 m0_ m1_ then (1 : Int32) else 0))])) _
        refine XS.ifNo X232.here hx rfl (hb hby at_360) rfl ((if0 _ _).trans (feq (by rw [if_pos hA]; decide)).1) ?_
        show Steps p.tables e below (T232.setTop (mkF m 363 #[.val (.int p1), .val (.int p2), .val (.int p3), .val (.int p4), .val (.int p5), .val (.int l1), .val (.int l2), .val (.int l3), .val (.int l4), .val (.int s1), .val (.int s2), .val (.int kd), .val (.int n0_), .val (.int n1_), .val (.int m0_), .val (.int m1_), .val (.int q0_), .val (.int q1_), .val (.int r0_), .val (.int r1_), .val (.ref x0), .val (.ref x1), .val (.ref x2), .val (.ref x3), .val (.ref t1), .val (.int (own_teq (own_cs l1 n0_ n1_) (own_cs l3 q0_ q1_) (own_cs l1 n0_ n1_) (own_cs l3 q0_ q1_))), .val (.ref t2), .unset, .unset, .unset] [])) _
        refine XS.iload X232.here hx rfl (hb hby at_363) rfl ?_
        show Steps p.tables e below (T232.setTop (mkF m 365 #[.val (.int p1), .val (.int p2), .val (.int p3), .val (.int p4), .val (.int p5), .val (.int l1), .val (.int l2), .val (.int l3), .val (.int l4), .val (.int s1), .val (.int s2), .val (.int kd), .val (.int n0_), .val (.int n1_), .val (.int m0_), .val (.int m1_), .val (.int q0_), .val (.int q1_), .val (.int r0_), .val (.int r1_), .val (.ref x0), .val (.ref x1), .val (.ref x2), .val (.ref x3), .val (.ref t1), .val (.int (own_teq (own_cs l1 n0_ n1_) (own_cs l3 q0_ q1_) (own_cs l1 n0_ n1_) (own_cs l3 q0_ q1_))), .val (.ref t2), .unset, .unset, .unset] [(.int l3)])) _
        refine XS.iload X232.here hx rfl (hb hby at_365) rfl ?_
        show Steps p.tables e below (T232.setTop (mkF m 367 #[.val (.int p1), .val (.int p2), .val (.int p3), .val (.int p4), .val (.int p5), .val (.int l1), .val (.int l2), .val (.int l3), .val (.int l4), .val (.int s1), .val (.int s2), .val (.int kd), .val (.int n0_), .val (.int n1_), .val (.int m0_), .val (.int m1_), .val (.int q0_), .val (.int q1_), .val (.int r0_), .val (.int r1_), .val (.ref x0), .val (.ref x1), .val (.ref x2), .val (.ref x3), .val (.ref t1), .val (.int (own_teq (own_cs l1 n0_ n1_) (own_cs l3 q0_ q1_) (own_cs l1 n0_ n1_) (own_cs l3 q0_ q1_))), .val (.ref t2), .unset, .unset, .unset] [(.int q0_), (.int l3)])) _
        refine XS.iload X232.here hx rfl (hb hby at_367) rfl ?_
        show Steps p.tables e below (T232.setTop (mkF m 369 #[.val (.int p1), .val (.int p2), .val (.int p3), .val (.int p4), .val (.int p5), .val (.int l1), .val (.int l2), .val (.int l3), .val (.int l4), .val (.int s1), .val (.int s2), .val (.int kd), .val (.int n0_), .val (.int n1_), .val (.int m0_), .val (.int m1_), .val (.int q0_), .val (.int q1_), .val (.int r0_), .val (.int r1_), .val (.ref x0), .val (.ref x1), .val (.ref x2), .val (.ref x3), .val (.ref t1), .val (.int (own_teq (own_cs l1 n0_ n1_) (own_cs l3 q0_ q1_) (own_cs l1 n0_ n1_) (own_cs l3 q0_ q1_))), .val (.ref t2), .unset, .unset, .unset] [(.int q1_), (.int q0_), (.int l3)])) _
        refine XS.iload X232.here hx rfl (hb hby at_369) rfl ?_
        show Steps p.tables e below (T232.setTop (mkF m 371 #[.val (.int p1), .val (.int p2), .val (.int p3), .val (.int p4), .val (.int p5), .val (.int l1), .val (.int l2), .val (.int l3), .val (.int l4), .val (.int s1), .val (.int s2), .val (.int kd), .val (.int n0_), .val (.int n1_), .val (.int m0_), .val (.int m1_), .val (.int q0_), .val (.int q1_), .val (.int r0_), .val (.int r1_), .val (.ref x0), .val (.ref x1), .val (.ref x2), .val (.ref x3), .val (.ref t1), .val (.int (own_teq (own_cs l1 n0_ n1_) (own_cs l3 q0_ q1_) (own_cs l1 n0_ n1_) (own_cs l3 q0_ q1_))), .val (.ref t2), .unset, .unset, .unset] [(.int l4), (.int q1_), (.int q0_), (.int l3)])) _
        refine XS.iload X232.here hx rfl (hb hby at_371) rfl ?_
        show Steps p.tables e below (T232.setTop (mkF m 373 #[.val (.int p1), .val (.int p2), .val (.int p3), .val (.int p4), .val (.int p5), .val (.int l1), .val (.int l2), .val (.int l3), .val (.int l4), .val (.int s1), .val (.int s2), .val (.int kd), .val (.int n0_), .val (.int n1_), .val (.int m0_), .val (.int m1_), .val (.int q0_), .val (.int q1_), .val (.int r0_), .val (.int r1_), .val (.ref x0), .val (.ref x1), .val (.ref x2), .val (.ref x3), .val (.ref t1), .val (.int (own_teq (own_cs l1 n0_ n1_) (own_cs l3 q0_ q1_) (own_cs l1 n0_ n1_) (own_cs l3 q0_ q1_))), .val (.ref t2), .unset, .unset, .unset] [(.int r0_), (.int l4), (.int q1_), (.int q0_), (.int l3)])) _
        refine XS.iload X232.here hx rfl (hb hby at_373) rfl ?_
        show Steps p.tables e below (T232.setTop (mkF m 375 #[.val (.int p1), .val (.int p2), .val (.int p3), .val (.int p4), .val (.int p5), .val (.int l1), .val (.int l2), .val (.int l3), .val (.int l4), .val (.int s1), .val (.int s2), .val (.int kd), .val (.int n0_), .val (.int n1_), .val (.int m0_), .val (.int m1_), .val (.int q0_), .val (.int q1_), .val (.int r0_), .val (.int r1_), .val (.ref x0), .val (.ref x1), .val (.ref x2), .val (.ref x3), .val (.ref t1), .val (.int (own_teq (own_cs l1 n0_ n1_) (own_cs l3 q0_ q1_) (own_cs l1 n0_ n1_) (own_cs l3 q0_ q1_))), .val (.ref t2), .unset, .unset, .unset] [(.int r1_), (.int r0_), (.int l4), (.int q1_), (.int q0_), (.int l3)])) _
        refine st234 _ ?_
        exact k_)
      by_cases hB : (own_cs l3 q0_ q1_) = (own_cs l4 r0_ r1_)
      · skip
        obtain ⟨cq236, kq236, q236a, q236b, q236c⟩ := isOf hZ220 e234 E_t1_226
        obtain ⟨_, _, ⟨T236, L236, k236, n236⟩, -, X236, ⟨Lc236, hQ236, l236, y236, z236⟩, st236⟩ := X234.virtualBack hx (y := (⟨"com/example/cranfield/cranfield/model/Topic", "equals", "(Ljava/lang/Object;)Z"⟩ : MethodName)) (z := (⟨"com/example/cranfield/cranfield/model/Topic", "equals", "(Ljava/lang/Object;)Z"⟩ : MethodName)) hown220 (mvT hZ220 (hw _ (List.mem_of_getElem? (i := 44) rfl))) (mvT hZ220 (hw _ (List.mem_of_getElem? (i := 45) rfl))) (notFace_of_selects (args := #[]) (mvT hZ220 (hw _ (List.mem_of_getElem? (i := 47) rfl)))) (mvT hZ220 (hw _ (List.mem_of_getElem? (i := 47) rfl))) (mvT hZ220 (hw _ (List.mem_of_getElem? (i := 46) rfl))) (by decide) (backOf (W := 0) (rmE2 l Z a0 hw [] t1 t2 x0 x2 x1 x3 (own_cs l1 n0_ n1_) (own_cs l3 q0_ q1_) (own_cs l2 m0_ m1_) (own_cs l4 r0_ r1_) zc T220.heap n0 Z230 E220 F0_t1_227 F1_t1_228 F0220 F1220 T_221 T_223 T_222 T_224 (S_c.ext O_231.2) hzc) hZ220 (hw _ (List.mem_of_getElem? (i := 48) rfl)) (hw _ (List.mem_of_getElem? (i := 28) rfl)) (by decide) (by decide)) q236a q236c (g := (mkF m 392 #[.val (.int p1), .val (.int p2), .val (.int p3), .val (.int p4), .val (.int p5), .val (.int l1), .val (.int l2), .val (.int l3), .val (.int l4), .val (.int s1), .val (.int s2), .val (.int kd), .val (.int n0_), .val (.int n1_), .val (.int m0_), .val (.int m1_), .val (.int q0_), .val (.int q1_), .val (.int r0_), .val (.int r1_), .val (.ref x0), .val (.ref x1), .val (.ref x2), .val (.ref x3), .val (.ref t1), .val (.int (own_teq (own_cs l1 n0_ n1_) (own_cs l3 q0_ q1_) (own_cs l1 n0_ n1_) (own_cs l3 q0_ q1_))), .val (.ref t2), .val (.int (1 : Int32)), .unset, .unset] [(.ref t2), (.ref t1)])) rfl (by rw [hml]; rfl) (Steps.refl _) (argsL := [(.ref t2)]) (rest := []) (lenOf pd_3 rfl) rfl (by show 2 * 0 + _ ≤ _; exact Nat.le_of_eq rfl) (hb hby at_392) (fun _ _ => ⟨rfl, e234, (by decide : 34 + 0 ≤ _), (by decide : 156 + 0 ≤ _)⟩)
        dsimp only [Pt.U, Pt.locs, Pt.cells, Pt.slots] at X236 l236 y236 z236 st236 hQ236
        subst l236 y236 z236
        obtain ⟨rfl, N236q, e236⟩ := hQ236
        have N236 := Fr.app N234 N236q
        obtain ⟨cq237, kq237, q237a, q237b, q237c⟩ := isOf hZ220 e236 E220
        obtain ⟨_, _, ⟨T237, L237, k237, n237⟩, -, X237, ⟨Lc237, hQ237, l237, y237, z237⟩, st237⟩ := X236.virtualBack hx (y := (⟨"java/lang/Object", "equals", "(Ljava/lang/Object;)Z"⟩ : MethodName)) (z := (⟨"com/example/cranfield/cranfield/model/Topic", "equals", "(Ljava/lang/Object;)Z"⟩ : MethodName)) hown220 (mvT hZ220 (hw _ (List.mem_of_getElem? (i := 65) rfl))) (mvT hZ220 (hw _ (List.mem_of_getElem? (i := 66) rfl))) (nf_top (args := #[]) (mvT hZ220 (hw _ (List.mem_of_getElem? (i := 80) rfl)))) (mvT hZ220 (hw _ (List.mem_of_getElem? (i := 68) rfl))) (mvT hZ220 (hw _ (List.mem_of_getElem? (i := 46) rfl))) (by decide) (backOf (W := 0) (rmE2 l Z a0 hw [] t2 t1 x1 x3 x0 x2 (own_cs l2 m0_ m1_) (own_cs l4 r0_ r1_) (own_cs l1 n0_ n1_) (own_cs l3 q0_ q1_) zc T220.heap n0 Z230 E_t1_226 F0220 F1220 F0_t1_227 F1_t1_228 T_222 T_224 T_221 T_223 (S_c.ext O_231.2) hzc) hZ220 (hw _ (List.mem_of_getElem? (i := 48) rfl)) (hw _ (List.mem_of_getElem? (i := 28) rfl)) (by decide) (by decide)) q237a q237c (g := (mkF m 410 #[.val (.int p1), .val (.int p2), .val (.int p3), .val (.int p4), .val (.int p5), .val (.int l1), .val (.int l2), .val (.int l3), .val (.int l4), .val (.int s1), .val (.int s2), .val (.int kd), .val (.int n0_), .val (.int n1_), .val (.int m0_), .val (.int m1_), .val (.int q0_), .val (.int q1_), .val (.int r0_), .val (.int r1_), .val (.ref x0), .val (.ref x1), .val (.ref x2), .val (.ref x3), .val (.ref t1), .val (.int (own_teq (own_cs l1 n0_ n1_) (own_cs l3 q0_ q1_) (own_cs l1 n0_ n1_) (own_cs l3 q0_ q1_))), .val (.ref t2), .val (.int (1 : Int32)), .val (.int (own_teq (own_cs l1 n0_ n1_) (own_cs l3 q0_ q1_) (own_cs l2 m0_ m1_) (own_cs l4 r0_ r1_))), .val (.int (1 : Int32))] [(.ref t1), (.ref t2)])) rfl (by rw [hml]; rfl) (Steps.refl _) (argsL := [(.ref t1)]) (rest := []) (lenOf pd_3 rfl) rfl (by show 2 * 0 + _ ≤ _; exact Nat.le_of_eq rfl) (hb hby at_410) (fun _ _ => ⟨rfl, e236, (by decide : 34 + 0 ≤ _), (by decide : 156 + 0 ≤ _)⟩)
        dsimp only [Pt.U, Pt.locs, Pt.cells, Pt.slots] at X237 l237 y237 z237 st237 hQ237
        subst l237 y237 z237
        obtain ⟨rfl, N237q, e237⟩ := hQ237
        have N237 := Fr.app N236 N237q
        have pre238 : ∀ t_, Steps p.tables e below (T237.setTop (mkF m 447 #[.val (.int p1), .val (.int p2), .val (.int p3), .val (.int p4), .val (.int p5), .val (.int l1), .val (.int l2), .val (.int l3), .val (.int l4), .val (.int s1), .val (.int s2), .val (.int kd), .val (.int n0_), .val (.int n1_), .val (.int m0_), .val (.int m1_), .val (.int q0_), .val (.int q1_), .val (.int r0_), .val (.int r1_), .val (.ref x0), .val (.ref x1), .val (.ref x2), .val (.ref x3), .val (.ref t1), .val (.int (own_teq (own_cs l1 n0_ n1_) (own_cs l3 q0_ q1_) (own_cs l1 n0_ n1_) (own_cs l3 q0_ q1_))), .val (.ref t2), .val (.int (1 : Int32)), .val (.int (own_teq (own_cs l1 n0_ n1_) (own_cs l3 q0_ q1_) (own_cs l2 m0_ m1_) (own_cs l4 r0_ r1_))), .val (.int (1 : Int32))] [(.int (1 : Int32))])) t_ → Steps p.tables e below (s₁.setTop (entryFrame m #[(.int p1), (.int p2), (.int p3), (.int p4), (.int p5)] maxLocals)) t_ := fun t_ k_ => pre235 _ (by
          show Steps p.tables e below (T234.setTop (mkF m 378 #[.val (.int p1), .val (.int p2), .val (.int p3), .val (.int p4), .val (.int p5), .val (.int l1), .val (.int l2), .val (.int l3), .val (.int l4), .val (.int s1), .val (.int s2), .val (.int kd), .val (.int n0_), .val (.int n1_), .val (.int m0_), .val (.int m1_), .val (.int q0_), .val (.int q1_), .val (.int r0_), .val (.int r1_), .val (.ref x0), .val (.ref x1), .val (.ref x2), .val (.ref x3), .val (.ref t1), .val (.int (own_teq (own_cs l1 n0_ n1_) (own_cs l3 q0_ q1_) (own_cs l1 n0_ n1_) (own_cs l3 q0_ q1_))), .val (.ref t2), .unset, .unset, .unset] [(.int (if own_cs l3 q0_ q1_ = own_cs l4 r0_ r1_ then (1 : Int32) else 0))])) _
          refine XS.ifNo X234.here hx rfl (hb hby at_378) rfl ((if0 _ _).trans (feq (by rw [if_pos hB]; decide)).1) ?_
          show Steps p.tables e below (T234.setTop (mkF m 381 #[.val (.int p1), .val (.int p2), .val (.int p3), .val (.int p4), .val (.int p5), .val (.int l1), .val (.int l2), .val (.int l3), .val (.int l4), .val (.int s1), .val (.int s2), .val (.int kd), .val (.int n0_), .val (.int n1_), .val (.int m0_), .val (.int m1_), .val (.int q0_), .val (.int q1_), .val (.int r0_), .val (.int r1_), .val (.ref x0), .val (.ref x1), .val (.ref x2), .val (.ref x3), .val (.ref t1), .val (.int (own_teq (own_cs l1 n0_ n1_) (own_cs l3 q0_ q1_) (own_cs l1 n0_ n1_) (own_cs l3 q0_ q1_))), .val (.ref t2), .unset, .unset, .unset] [])) _
          refine XS.iconst X234.here hx rfl (hb hby at_381) ?_
          show Steps p.tables e below (T234.setTop (mkF m 382 #[.val (.int p1), .val (.int p2), .val (.int p3), .val (.int p4), .val (.int p5), .val (.int l1), .val (.int l2), .val (.int l3), .val (.int l4), .val (.int s1), .val (.int s2), .val (.int kd), .val (.int n0_), .val (.int n1_), .val (.int m0_), .val (.int m1_), .val (.int q0_), .val (.int q1_), .val (.int r0_), .val (.int r1_), .val (.ref x0), .val (.ref x1), .val (.ref x2), .val (.ref x3), .val (.ref t1), .val (.int (own_teq (own_cs l1 n0_ n1_) (own_cs l3 q0_ q1_) (own_cs l1 n0_ n1_) (own_cs l3 q0_ q1_))), .val (.ref t2), .unset, .unset, .unset] [(.int (1 : Int32))])) _
          refine XS.goto X234.here hx rfl (pc0 := 382) (pc' := 386) rfl (hb hby at_382) (by decide) (by decide) ?_
          show Steps p.tables e below (T234.setTop (mkF m 386 #[.val (.int p1), .val (.int p2), .val (.int p3), .val (.int p4), .val (.int p5), .val (.int l1), .val (.int l2), .val (.int l3), .val (.int l4), .val (.int s1), .val (.int s2), .val (.int kd), .val (.int n0_), .val (.int n1_), .val (.int m0_), .val (.int m1_), .val (.int q0_), .val (.int q1_), .val (.int r0_), .val (.int r1_), .val (.ref x0), .val (.ref x1), .val (.ref x2), .val (.ref x3), .val (.ref t1), .val (.int (own_teq (own_cs l1 n0_ n1_) (own_cs l3 q0_ q1_) (own_cs l1 n0_ n1_) (own_cs l3 q0_ q1_))), .val (.ref t2), .unset, .unset, .unset] [(.int (1 : Int32))])) _
          refine XS.istore X234.here hx rfl (hb hby at_386) rfl (l' := #[.val (.int p1), .val (.int p2), .val (.int p3), .val (.int p4), .val (.int p5), .val (.int l1), .val (.int l2), .val (.int l3), .val (.int l4), .val (.int s1), .val (.int s2), .val (.int kd), .val (.int n0_), .val (.int n1_), .val (.int m0_), .val (.int m1_), .val (.int q0_), .val (.int q1_), .val (.int r0_), .val (.int r1_), .val (.ref x0), .val (.ref x1), .val (.ref x2), .val (.ref x3), .val (.ref t1), .val (.int (own_teq (own_cs l1 n0_ n1_) (own_cs l3 q0_ q1_) (own_cs l1 n0_ n1_) (own_cs l3 q0_ q1_))), .val (.ref t2), .val (.int (1 : Int32)), .unset, .unset]) rfl ?_
          show Steps p.tables e below (T234.setTop (mkF m 388 #[.val (.int p1), .val (.int p2), .val (.int p3), .val (.int p4), .val (.int p5), .val (.int l1), .val (.int l2), .val (.int l3), .val (.int l4), .val (.int s1), .val (.int s2), .val (.int kd), .val (.int n0_), .val (.int n1_), .val (.int m0_), .val (.int m1_), .val (.int q0_), .val (.int q1_), .val (.int r0_), .val (.int r1_), .val (.ref x0), .val (.ref x1), .val (.ref x2), .val (.ref x3), .val (.ref t1), .val (.int (own_teq (own_cs l1 n0_ n1_) (own_cs l3 q0_ q1_) (own_cs l1 n0_ n1_) (own_cs l3 q0_ q1_))), .val (.ref t2), .val (.int (1 : Int32)), .unset, .unset] [])) _
          refine XS.aload X234.here hx rfl (hb hby at_388) rfl rfl ?_
          show Steps p.tables e below (T234.setTop (mkF m 390 #[.val (.int p1), .val (.int p2), .val (.int p3), .val (.int p4), .val (.int p5), .val (.int l1), .val (.int l2), .val (.int l3), .val (.int l4), .val (.int s1), .val (.int s2), .val (.int kd), .val (.int n0_), .val (.int n1_), .val (.int m0_), .val (.int m1_), .val (.int q0_), .val (.int q1_), .val (.int r0_), .val (.int r1_), .val (.ref x0), .val (.ref x1), .val (.ref x2), .val (.ref x3), .val (.ref t1), .val (.int (own_teq (own_cs l1 n0_ n1_) (own_cs l3 q0_ q1_) (own_cs l1 n0_ n1_) (own_cs l3 q0_ q1_))), .val (.ref t2), .val (.int (1 : Int32)), .unset, .unset] [(.ref t1)])) _
          refine XS.aload X234.here hx rfl (hb hby at_390) rfl rfl ?_
          show Steps p.tables e below (T234.setTop (mkF m 392 #[.val (.int p1), .val (.int p2), .val (.int p3), .val (.int p4), .val (.int p5), .val (.int l1), .val (.int l2), .val (.int l3), .val (.int l4), .val (.int s1), .val (.int s2), .val (.int kd), .val (.int n0_), .val (.int n1_), .val (.int m0_), .val (.int m1_), .val (.int q0_), .val (.int q1_), .val (.int r0_), .val (.int r1_), .val (.ref x0), .val (.ref x1), .val (.ref x2), .val (.ref x3), .val (.ref t1), .val (.int (own_teq (own_cs l1 n0_ n1_) (own_cs l3 q0_ q1_) (own_cs l1 n0_ n1_) (own_cs l3 q0_ q1_))), .val (.ref t2), .val (.int (1 : Int32)), .unset, .unset] [(.ref t2), (.ref t1)])) _
          refine st236.trans ?_
          show Steps p.tables e below (T236.setTop (mkF m 395 #[.val (.int p1), .val (.int p2), .val (.int p3), .val (.int p4), .val (.int p5), .val (.int l1), .val (.int l2), .val (.int l3), .val (.int l4), .val (.int s1), .val (.int s2), .val (.int kd), .val (.int n0_), .val (.int n1_), .val (.int m0_), .val (.int m1_), .val (.int q0_), .val (.int q1_), .val (.int r0_), .val (.int r1_), .val (.ref x0), .val (.ref x1), .val (.ref x2), .val (.ref x3), .val (.ref t1), .val (.int (own_teq (own_cs l1 n0_ n1_) (own_cs l3 q0_ q1_) (own_cs l1 n0_ n1_) (own_cs l3 q0_ q1_))), .val (.ref t2), .val (.int (1 : Int32)), .unset, .unset] [(.int (own_teq (own_cs l1 n0_ n1_) (own_cs l3 q0_ q1_) (own_cs l2 m0_ m1_) (own_cs l4 r0_ r1_)))])) _
          refine XS.istore X236.here hx rfl (hb hby at_395) rfl (l' := #[.val (.int p1), .val (.int p2), .val (.int p3), .val (.int p4), .val (.int p5), .val (.int l1), .val (.int l2), .val (.int l3), .val (.int l4), .val (.int s1), .val (.int s2), .val (.int kd), .val (.int n0_), .val (.int n1_), .val (.int m0_), .val (.int m1_), .val (.int q0_), .val (.int q1_), .val (.int r0_), .val (.int r1_), .val (.ref x0), .val (.ref x1), .val (.ref x2), .val (.ref x3), .val (.ref t1), .val (.int (own_teq (own_cs l1 n0_ n1_) (own_cs l3 q0_ q1_) (own_cs l1 n0_ n1_) (own_cs l3 q0_ q1_))), .val (.ref t2), .val (.int (1 : Int32)), .val (.int (own_teq (own_cs l1 n0_ n1_) (own_cs l3 q0_ q1_) (own_cs l2 m0_ m1_) (own_cs l4 r0_ r1_))), .unset]) rfl ?_
          show Steps p.tables e below (T236.setTop (mkF m 397 #[.val (.int p1), .val (.int p2), .val (.int p3), .val (.int p4), .val (.int p5), .val (.int l1), .val (.int l2), .val (.int l3), .val (.int l4), .val (.int s1), .val (.int s2), .val (.int kd), .val (.int n0_), .val (.int n1_), .val (.int m0_), .val (.int m1_), .val (.int q0_), .val (.int q1_), .val (.int r0_), .val (.int r1_), .val (.ref x0), .val (.ref x1), .val (.ref x2), .val (.ref x3), .val (.ref t1), .val (.int (own_teq (own_cs l1 n0_ n1_) (own_cs l3 q0_ q1_) (own_cs l1 n0_ n1_) (own_cs l3 q0_ q1_))), .val (.ref t2), .val (.int (1 : Int32)), .val (.int (own_teq (own_cs l1 n0_ n1_) (own_cs l3 q0_ q1_) (own_cs l2 m0_ m1_) (own_cs l4 r0_ r1_))), .unset] [])) _
          refine XS.iconst X236.here hx rfl (hb hby at_397) ?_
          show Steps p.tables e below (T236.setTop (mkF m 398 #[.val (.int p1), .val (.int p2), .val (.int p3), .val (.int p4), .val (.int p5), .val (.int l1), .val (.int l2), .val (.int l3), .val (.int l4), .val (.int s1), .val (.int s2), .val (.int kd), .val (.int n0_), .val (.int n1_), .val (.int m0_), .val (.int m1_), .val (.int q0_), .val (.int q1_), .val (.int r0_), .val (.int r1_), .val (.ref x0), .val (.ref x1), .val (.ref x2), .val (.ref x3), .val (.ref t1), .val (.int (own_teq (own_cs l1 n0_ n1_) (own_cs l3 q0_ q1_) (own_cs l1 n0_ n1_) (own_cs l3 q0_ q1_))), .val (.ref t2), .val (.int (1 : Int32)), .val (.int (own_teq (own_cs l1 n0_ n1_) (own_cs l3 q0_ q1_) (own_cs l2 m0_ m1_) (own_cs l4 r0_ r1_))), .unset] [(.int (1 : Int32))])) _
          refine XS.istore X236.here hx rfl (hb hby at_398) rfl (l' := #[.val (.int p1), .val (.int p2), .val (.int p3), .val (.int p4), .val (.int p5), .val (.int l1), .val (.int l2), .val (.int l3), .val (.int l4), .val (.int s1), .val (.int s2), .val (.int kd), .val (.int n0_), .val (.int n1_), .val (.int m0_), .val (.int m1_), .val (.int q0_), .val (.int q1_), .val (.int r0_), .val (.int r1_), .val (.ref x0), .val (.ref x1), .val (.ref x2), .val (.ref x3), .val (.ref t1), .val (.int (own_teq (own_cs l1 n0_ n1_) (own_cs l3 q0_ q1_) (own_cs l1 n0_ n1_) (own_cs l3 q0_ q1_))), .val (.ref t2), .val (.int (1 : Int32)), .val (.int (own_teq (own_cs l1 n0_ n1_) (own_cs l3 q0_ q1_) (own_cs l2 m0_ m1_) (own_cs l4 r0_ r1_))), .val (.int (1 : Int32))]) rfl ?_
          show Steps p.tables e below (T236.setTop (mkF m 400 #[.val (.int p1), .val (.int p2), .val (.int p3), .val (.int p4), .val (.int p5), .val (.int l1), .val (.int l2), .val (.int l3), .val (.int l4), .val (.int s1), .val (.int s2), .val (.int kd), .val (.int n0_), .val (.int n1_), .val (.int m0_), .val (.int m1_), .val (.int q0_), .val (.int q1_), .val (.int r0_), .val (.int r1_), .val (.ref x0), .val (.ref x1), .val (.ref x2), .val (.ref x3), .val (.ref t1), .val (.int (own_teq (own_cs l1 n0_ n1_) (own_cs l3 q0_ q1_) (own_cs l1 n0_ n1_) (own_cs l3 q0_ q1_))), .val (.ref t2), .val (.int (1 : Int32)), .val (.int (own_teq (own_cs l1 n0_ n1_) (own_cs l3 q0_ q1_) (own_cs l2 m0_ m1_) (own_cs l4 r0_ r1_))), .val (.int (1 : Int32))] [])) _
          refine XS.iload X236.here hx rfl (hb hby at_400) rfl ?_
          show Steps p.tables e below (T236.setTop (mkF m 402 #[.val (.int p1), .val (.int p2), .val (.int p3), .val (.int p4), .val (.int p5), .val (.int l1), .val (.int l2), .val (.int l3), .val (.int l4), .val (.int s1), .val (.int s2), .val (.int kd), .val (.int n0_), .val (.int n1_), .val (.int m0_), .val (.int m1_), .val (.int q0_), .val (.int q1_), .val (.int r0_), .val (.int r1_), .val (.ref x0), .val (.ref x1), .val (.ref x2), .val (.ref x3), .val (.ref t1), .val (.int (own_teq (own_cs l1 n0_ n1_) (own_cs l3 q0_ q1_) (own_cs l1 n0_ n1_) (own_cs l3 q0_ q1_))), .val (.ref t2), .val (.int (1 : Int32)), .val (.int (own_teq (own_cs l1 n0_ n1_) (own_cs l3 q0_ q1_) (own_cs l2 m0_ m1_) (own_cs l4 r0_ r1_))), .val (.int (1 : Int32))] [(.int kd)])) _
          refine XS.iconst X236.here hx rfl (hb hby at_402) ?_
          show Steps p.tables e below (T236.setTop (mkF m 403 #[.val (.int p1), .val (.int p2), .val (.int p3), .val (.int p4), .val (.int p5), .val (.int l1), .val (.int l2), .val (.int l3), .val (.int l4), .val (.int s1), .val (.int s2), .val (.int kd), .val (.int n0_), .val (.int n1_), .val (.int m0_), .val (.int m1_), .val (.int q0_), .val (.int q1_), .val (.int r0_), .val (.int r1_), .val (.ref x0), .val (.ref x1), .val (.ref x2), .val (.ref x3), .val (.ref t1), .val (.int (own_teq (own_cs l1 n0_ n1_) (own_cs l3 q0_ q1_) (own_cs l1 n0_ n1_) (own_cs l3 q0_ q1_))), .val (.ref t2), .val (.int (1 : Int32)), .val (.int (own_teq (own_cs l1 n0_ n1_) (own_cs l3 q0_ q1_) (own_cs l2 m0_ m1_) (own_cs l4 r0_ r1_))), .val (.int (1 : Int32))] [(.int (2 : Int32)), (.int kd)])) _
          refine XS.icmpNo X236.here hx rfl (hb hby at_403) rfl (tlt (by rw [q]; decide)).2.1 ?_
          show Steps p.tables e below (T236.setTop (mkF m 406 #[.val (.int p1), .val (.int p2), .val (.int p3), .val (.int p4), .val (.int p5), .val (.int l1), .val (.int l2), .val (.int l3), .val (.int l4), .val (.int s1), .val (.int s2), .val (.int kd), .val (.int n0_), .val (.int n1_), .val (.int m0_), .val (.int m1_), .val (.int q0_), .val (.int q1_), .val (.int r0_), .val (.int r1_), .val (.ref x0), .val (.ref x1), .val (.ref x2), .val (.ref x3), .val (.ref t1), .val (.int (own_teq (own_cs l1 n0_ n1_) (own_cs l3 q0_ q1_) (own_cs l1 n0_ n1_) (own_cs l3 q0_ q1_))), .val (.ref t2), .val (.int (1 : Int32)), .val (.int (own_teq (own_cs l1 n0_ n1_) (own_cs l3 q0_ q1_) (own_cs l2 m0_ m1_) (own_cs l4 r0_ r1_))), .val (.int (1 : Int32))] [])) _
          refine XS.aload X236.here hx rfl (hb hby at_406) rfl rfl ?_
          show Steps p.tables e below (T236.setTop (mkF m 408 #[.val (.int p1), .val (.int p2), .val (.int p3), .val (.int p4), .val (.int p5), .val (.int l1), .val (.int l2), .val (.int l3), .val (.int l4), .val (.int s1), .val (.int s2), .val (.int kd), .val (.int n0_), .val (.int n1_), .val (.int m0_), .val (.int m1_), .val (.int q0_), .val (.int q1_), .val (.int r0_), .val (.int r1_), .val (.ref x0), .val (.ref x1), .val (.ref x2), .val (.ref x3), .val (.ref t1), .val (.int (own_teq (own_cs l1 n0_ n1_) (own_cs l3 q0_ q1_) (own_cs l1 n0_ n1_) (own_cs l3 q0_ q1_))), .val (.ref t2), .val (.int (1 : Int32)), .val (.int (own_teq (own_cs l1 n0_ n1_) (own_cs l3 q0_ q1_) (own_cs l2 m0_ m1_) (own_cs l4 r0_ r1_))), .val (.int (1 : Int32))] [(.ref t2)])) _
          refine XS.aload X236.here hx rfl (hb hby at_408) rfl rfl ?_
          show Steps p.tables e below (T236.setTop (mkF m 410 #[.val (.int p1), .val (.int p2), .val (.int p3), .val (.int p4), .val (.int p5), .val (.int l1), .val (.int l2), .val (.int l3), .val (.int l4), .val (.int s1), .val (.int s2), .val (.int kd), .val (.int n0_), .val (.int n1_), .val (.int m0_), .val (.int m1_), .val (.int q0_), .val (.int q1_), .val (.int r0_), .val (.int r1_), .val (.ref x0), .val (.ref x1), .val (.ref x2), .val (.ref x3), .val (.ref t1), .val (.int (own_teq (own_cs l1 n0_ n1_) (own_cs l3 q0_ q1_) (own_cs l1 n0_ n1_) (own_cs l3 q0_ q1_))), .val (.ref t2), .val (.int (1 : Int32)), .val (.int (own_teq (own_cs l1 n0_ n1_) (own_cs l3 q0_ q1_) (own_cs l2 m0_ m1_) (own_cs l4 r0_ r1_))), .val (.int (1 : Int32))] [(.ref t1), (.ref t2)])) _
          refine st237.trans ?_
          show Steps p.tables e below (T237.setTop (mkF m 413 #[.val (.int p1), .val (.int p2), .val (.int p3), .val (.int p4), .val (.int p5), .val (.int l1), .val (.int l2), .val (.int l3), .val (.int l4), .val (.int s1), .val (.int s2), .val (.int kd), .val (.int n0_), .val (.int n1_), .val (.int m0_), .val (.int m1_), .val (.int q0_), .val (.int q1_), .val (.int r0_), .val (.int r1_), .val (.ref x0), .val (.ref x1), .val (.ref x2), .val (.ref x3), .val (.ref t1), .val (.int (own_teq (own_cs l1 n0_ n1_) (own_cs l3 q0_ q1_) (own_cs l1 n0_ n1_) (own_cs l3 q0_ q1_))), .val (.ref t2), .val (.int (1 : Int32)), .val (.int (own_teq (own_cs l1 n0_ n1_) (own_cs l3 q0_ q1_) (own_cs l2 m0_ m1_) (own_cs l4 r0_ r1_))), .val (.int (1 : Int32))] [(.int (own_teq (own_cs l2 m0_ m1_) (own_cs l4 r0_ r1_) (own_cs l1 n0_ n1_) (own_cs l3 q0_ q1_)))])) _
          refine XS.iload X237.here hx rfl (hb hby at_413) rfl ?_
          show Steps p.tables e below (T237.setTop (mkF m 415 #[.val (.int p1), .val (.int p2), .val (.int p3), .val (.int p4), .val (.int p5), .val (.int l1), .val (.int l2), .val (.int l3), .val (.int l4), .val (.int s1), .val (.int s2), .val (.int kd), .val (.int n0_), .val (.int n1_), .val (.int m0_), .val (.int m1_), .val (.int q0_), .val (.int q1_), .val (.int r0_), .val (.int r1_), .val (.ref x0), .val (.ref x1), .val (.ref x2), .val (.ref x3), .val (.ref t1), .val (.int (own_teq (own_cs l1 n0_ n1_) (own_cs l3 q0_ q1_) (own_cs l1 n0_ n1_) (own_cs l3 q0_ q1_))), .val (.ref t2), .val (.int (1 : Int32)), .val (.int (own_teq (own_cs l1 n0_ n1_) (own_cs l3 q0_ q1_) (own_cs l2 m0_ m1_) (own_cs l4 r0_ r1_))), .val (.int (1 : Int32))] [(.int (own_teq (own_cs l1 n0_ n1_) (own_cs l3 q0_ q1_) (own_cs l2 m0_ m1_) (own_cs l4 r0_ r1_))), (.int (own_teq (own_cs l2 m0_ m1_) (own_cs l4 r0_ r1_) (own_cs l1 n0_ n1_) (own_cs l3 q0_ q1_)))])) _
          refine XS.icmpNo X237.here hx rfl (hb hby at_415) rfl (teq (own_teqc _ _ _ _)).2 ?_
          show Steps p.tables e below (T237.setTop (mkF m 418 #[.val (.int p1), .val (.int p2), .val (.int p3), .val (.int p4), .val (.int p5), .val (.int l1), .val (.int l2), .val (.int l3), .val (.int l4), .val (.int s1), .val (.int s2), .val (.int kd), .val (.int n0_), .val (.int n1_), .val (.int m0_), .val (.int m1_), .val (.int q0_), .val (.int q1_), .val (.int r0_), .val (.int r1_), .val (.ref x0), .val (.ref x1), .val (.ref x2), .val (.ref x3), .val (.ref t1), .val (.int (own_teq (own_cs l1 n0_ n1_) (own_cs l3 q0_ q1_) (own_cs l1 n0_ n1_) (own_cs l3 q0_ q1_))), .val (.ref t2), .val (.int (1 : Int32)), .val (.int (own_teq (own_cs l1 n0_ n1_) (own_cs l3 q0_ q1_) (own_cs l2 m0_ m1_) (own_cs l4 r0_ r1_))), .val (.int (1 : Int32))] [])) _
          refine XS.iconst X237.here hx rfl (hb hby at_418) ?_
          show Steps p.tables e below (T237.setTop (mkF m 419 #[.val (.int p1), .val (.int p2), .val (.int p3), .val (.int p4), .val (.int p5), .val (.int l1), .val (.int l2), .val (.int l3), .val (.int l4), .val (.int s1), .val (.int s2), .val (.int kd), .val (.int n0_), .val (.int n1_), .val (.int m0_), .val (.int m1_), .val (.int q0_), .val (.int q1_), .val (.int r0_), .val (.int r1_), .val (.ref x0), .val (.ref x1), .val (.ref x2), .val (.ref x3), .val (.ref t1), .val (.int (own_teq (own_cs l1 n0_ n1_) (own_cs l3 q0_ q1_) (own_cs l1 n0_ n1_) (own_cs l3 q0_ q1_))), .val (.ref t2), .val (.int (1 : Int32)), .val (.int (own_teq (own_cs l1 n0_ n1_) (own_cs l3 q0_ q1_) (own_cs l2 m0_ m1_) (own_cs l4 r0_ r1_))), .val (.int (1 : Int32))] [(.int (1 : Int32))])) _
          refine XS.goto X237.here hx rfl (pc0 := 419) (pc' := 423) rfl (hb hby at_419) (by decide) (by decide) ?_
          show Steps p.tables e below (T237.setTop (mkF m 423 #[.val (.int p1), .val (.int p2), .val (.int p3), .val (.int p4), .val (.int p5), .val (.int l1), .val (.int l2), .val (.int l3), .val (.int l4), .val (.int s1), .val (.int s2), .val (.int kd), .val (.int n0_), .val (.int n1_), .val (.int m0_), .val (.int m1_), .val (.int q0_), .val (.int q1_), .val (.int r0_), .val (.int r1_), .val (.ref x0), .val (.ref x1), .val (.ref x2), .val (.ref x3), .val (.ref t1), .val (.int (own_teq (own_cs l1 n0_ n1_) (own_cs l3 q0_ q1_) (own_cs l1 n0_ n1_) (own_cs l3 q0_ q1_))), .val (.ref t2), .val (.int (1 : Int32)), .val (.int (own_teq (own_cs l1 n0_ n1_) (own_cs l3 q0_ q1_) (own_cs l2 m0_ m1_) (own_cs l4 r0_ r1_))), .val (.int (1 : Int32))] [(.int (1 : Int32))])) _
          refine XS.istore X237.here hx rfl (hb hby at_423) rfl (l' := #[.val (.int p1), .val (.int p2), .val (.int p3), .val (.int p4), .val (.int p5), .val (.int l1), .val (.int l2), .val (.int l3), .val (.int l4), .val (.int s1), .val (.int s2), .val (.int kd), .val (.int n0_), .val (.int n1_), .val (.int m0_), .val (.int m1_), .val (.int q0_), .val (.int q1_), .val (.int r0_), .val (.int r1_), .val (.ref x0), .val (.ref x1), .val (.ref x2), .val (.ref x3), .val (.ref t1), .val (.int (own_teq (own_cs l1 n0_ n1_) (own_cs l3 q0_ q1_) (own_cs l1 n0_ n1_) (own_cs l3 q0_ q1_))), .val (.ref t2), .val (.int (1 : Int32)), .val (.int (own_teq (own_cs l1 n0_ n1_) (own_cs l3 q0_ q1_) (own_cs l2 m0_ m1_) (own_cs l4 r0_ r1_))), .val (.int (1 : Int32))]) rfl ?_
          show Steps p.tables e below (T237.setTop (mkF m 425 #[.val (.int p1), .val (.int p2), .val (.int p3), .val (.int p4), .val (.int p5), .val (.int l1), .val (.int l2), .val (.int l3), .val (.int l4), .val (.int s1), .val (.int s2), .val (.int kd), .val (.int n0_), .val (.int n1_), .val (.int m0_), .val (.int m1_), .val (.int q0_), .val (.int q1_), .val (.int r0_), .val (.int r1_), .val (.ref x0), .val (.ref x1), .val (.ref x2), .val (.ref x3), .val (.ref t1), .val (.int (own_teq (own_cs l1 n0_ n1_) (own_cs l3 q0_ q1_) (own_cs l1 n0_ n1_) (own_cs l3 q0_ q1_))), .val (.ref t2), .val (.int (1 : Int32)), .val (.int (own_teq (own_cs l1 n0_ n1_) (own_cs l3 q0_ q1_) (own_cs l2 m0_ m1_) (own_cs l4 r0_ r1_))), .val (.int (1 : Int32))] [])) _
          refine XS.iload X237.here hx rfl (hb hby at_425) rfl ?_
          show Steps p.tables e below (T237.setTop (mkF m 427 #[.val (.int p1), .val (.int p2), .val (.int p3), .val (.int p4), .val (.int p5), .val (.int l1), .val (.int l2), .val (.int l3), .val (.int l4), .val (.int s1), .val (.int s2), .val (.int kd), .val (.int n0_), .val (.int n1_), .val (.int m0_), .val (.int m1_), .val (.int q0_), .val (.int q1_), .val (.int r0_), .val (.int r1_), .val (.ref x0), .val (.ref x1), .val (.ref x2), .val (.ref x3), .val (.ref t1), .val (.int (own_teq (own_cs l1 n0_ n1_) (own_cs l3 q0_ q1_) (own_cs l1 n0_ n1_) (own_cs l3 q0_ q1_))), .val (.ref t2), .val (.int (1 : Int32)), .val (.int (own_teq (own_cs l1 n0_ n1_) (own_cs l3 q0_ q1_) (own_cs l2 m0_ m1_) (own_cs l4 r0_ r1_))), .val (.int (1 : Int32))] [(.int (own_teq (own_cs l1 n0_ n1_) (own_cs l3 q0_ q1_) (own_cs l1 n0_ n1_) (own_cs l3 q0_ q1_)))])) _
          refine XS.ifNo X237.here hx rfl (hb hby at_427) rfl ((if0 _ _).trans (feq (by rw [own_teqs]; decide)).1) ?_
          show Steps p.tables e below (T237.setTop (mkF m 430 #[.val (.int p1), .val (.int p2), .val (.int p3), .val (.int p4), .val (.int p5), .val (.int l1), .val (.int l2), .val (.int l3), .val (.int l4), .val (.int s1), .val (.int s2), .val (.int kd), .val (.int n0_), .val (.int n1_), .val (.int m0_), .val (.int m1_), .val (.int q0_), .val (.int q1_), .val (.int r0_), .val (.int r1_), .val (.ref x0), .val (.ref x1), .val (.ref x2), .val (.ref x3), .val (.ref t1), .val (.int (own_teq (own_cs l1 n0_ n1_) (own_cs l3 q0_ q1_) (own_cs l1 n0_ n1_) (own_cs l3 q0_ q1_))), .val (.ref t2), .val (.int (1 : Int32)), .val (.int (own_teq (own_cs l1 n0_ n1_) (own_cs l3 q0_ q1_) (own_cs l2 m0_ m1_) (own_cs l4 r0_ r1_))), .val (.int (1 : Int32))] [])) _
          refine XS.iload X237.here hx rfl (hb hby at_430) rfl ?_
          show Steps p.tables e below (T237.setTop (mkF m 432 #[.val (.int p1), .val (.int p2), .val (.int p3), .val (.int p4), .val (.int p5), .val (.int l1), .val (.int l2), .val (.int l3), .val (.int l4), .val (.int s1), .val (.int s2), .val (.int kd), .val (.int n0_), .val (.int n1_), .val (.int m0_), .val (.int m1_), .val (.int q0_), .val (.int q1_), .val (.int r0_), .val (.int r1_), .val (.ref x0), .val (.ref x1), .val (.ref x2), .val (.ref x3), .val (.ref t1), .val (.int (own_teq (own_cs l1 n0_ n1_) (own_cs l3 q0_ q1_) (own_cs l1 n0_ n1_) (own_cs l3 q0_ q1_))), .val (.ref t2), .val (.int (1 : Int32)), .val (.int (own_teq (own_cs l1 n0_ n1_) (own_cs l3 q0_ q1_) (own_cs l2 m0_ m1_) (own_cs l4 r0_ r1_))), .val (.int (1 : Int32))] [(.int (own_teq (own_cs l1 n0_ n1_) (own_cs l3 q0_ q1_) (own_cs l2 m0_ m1_) (own_cs l4 r0_ r1_)))])) _
          refine XS.iload X237.here hx rfl (hb hby at_432) rfl ?_
          show Steps p.tables e below (T237.setTop (mkF m 434 #[.val (.int p1), .val (.int p2), .val (.int p3), .val (.int p4), .val (.int p5), .val (.int l1), .val (.int l2), .val (.int l3), .val (.int l4), .val (.int s1), .val (.int s2), .val (.int kd), .val (.int n0_), .val (.int n1_), .val (.int m0_), .val (.int m1_), .val (.int q0_), .val (.int q1_), .val (.int r0_), .val (.int r1_), .val (.ref x0), .val (.ref x1), .val (.ref x2), .val (.ref x3), .val (.ref t1), .val (.int (own_teq (own_cs l1 n0_ n1_) (own_cs l3 q0_ q1_) (own_cs l1 n0_ n1_) (own_cs l3 q0_ q1_))), .val (.ref t2), .val (.int (1 : Int32)), .val (.int (own_teq (own_cs l1 n0_ n1_) (own_cs l3 q0_ q1_) (own_cs l2 m0_ m1_) (own_cs l4 r0_ r1_))), .val (.int (1 : Int32))] [(.int (1 : Int32)), (.int (own_teq (own_cs l1 n0_ n1_) (own_cs l3 q0_ q1_) (own_cs l2 m0_ m1_) (own_cs l4 r0_ r1_)))])) _
          refine XS.icmpNo X237.here hx rfl (hb hby at_434) rfl (teq (by rw [own_teq, if_pos hA, if_pos hB])).2 ?_
          show Steps p.tables e below (T237.setTop (mkF m 437 #[.val (.int p1), .val (.int p2), .val (.int p3), .val (.int p4), .val (.int p5), .val (.int l1), .val (.int l2), .val (.int l3), .val (.int l4), .val (.int s1), .val (.int s2), .val (.int kd), .val (.int n0_), .val (.int n1_), .val (.int m0_), .val (.int m1_), .val (.int q0_), .val (.int q1_), .val (.int r0_), .val (.int r1_), .val (.ref x0), .val (.ref x1), .val (.ref x2), .val (.ref x3), .val (.ref t1), .val (.int (own_teq (own_cs l1 n0_ n1_) (own_cs l3 q0_ q1_) (own_cs l1 n0_ n1_) (own_cs l3 q0_ q1_))), .val (.ref t2), .val (.int (1 : Int32)), .val (.int (own_teq (own_cs l1 n0_ n1_) (own_cs l3 q0_ q1_) (own_cs l2 m0_ m1_) (own_cs l4 r0_ r1_))), .val (.int (1 : Int32))] [])) _
          refine XS.iload X237.here hx rfl (hb hby at_437) rfl ?_
          show Steps p.tables e below (T237.setTop (mkF m 439 #[.val (.int p1), .val (.int p2), .val (.int p3), .val (.int p4), .val (.int p5), .val (.int l1), .val (.int l2), .val (.int l3), .val (.int l4), .val (.int s1), .val (.int s2), .val (.int kd), .val (.int n0_), .val (.int n1_), .val (.int m0_), .val (.int m1_), .val (.int q0_), .val (.int q1_), .val (.int r0_), .val (.int r1_), .val (.ref x0), .val (.ref x1), .val (.ref x2), .val (.ref x3), .val (.ref t1), .val (.int (own_teq (own_cs l1 n0_ n1_) (own_cs l3 q0_ q1_) (own_cs l1 n0_ n1_) (own_cs l3 q0_ q1_))), .val (.ref t2), .val (.int (1 : Int32)), .val (.int (own_teq (own_cs l1 n0_ n1_) (own_cs l3 q0_ q1_) (own_cs l2 m0_ m1_) (own_cs l4 r0_ r1_))), .val (.int (1 : Int32))] [(.int (1 : Int32))])) _
          refine XS.ifNo X237.here hx rfl (hb hby at_439) rfl ((if0 _ _).trans (feq (by decide : ¬ (1 : Int32) = 0)).1) ?_
          show Steps p.tables e below (T237.setTop (mkF m 442 #[.val (.int p1), .val (.int p2), .val (.int p3), .val (.int p4), .val (.int p5), .val (.int l1), .val (.int l2), .val (.int l3), .val (.int l4), .val (.int s1), .val (.int s2), .val (.int kd), .val (.int n0_), .val (.int n1_), .val (.int m0_), .val (.int m1_), .val (.int q0_), .val (.int q1_), .val (.int r0_), .val (.int r1_), .val (.ref x0), .val (.ref x1), .val (.ref x2), .val (.ref x3), .val (.ref t1), .val (.int (own_teq (own_cs l1 n0_ n1_) (own_cs l3 q0_ q1_) (own_cs l1 n0_ n1_) (own_cs l3 q0_ q1_))), .val (.ref t2), .val (.int (1 : Int32)), .val (.int (own_teq (own_cs l1 n0_ n1_) (own_cs l3 q0_ q1_) (own_cs l2 m0_ m1_) (own_cs l4 r0_ r1_))), .val (.int (1 : Int32))] [])) _
          refine XS.iconst X237.here hx rfl (hb hby at_442) ?_
          show Steps p.tables e below (T237.setTop (mkF m 443 #[.val (.int p1), .val (.int p2), .val (.int p3), .val (.int p4), .val (.int p5), .val (.int l1), .val (.int l2), .val (.int l3), .val (.int l4), .val (.int s1), .val (.int s2), .val (.int kd), .val (.int n0_), .val (.int n1_), .val (.int m0_), .val (.int m1_), .val (.int q0_), .val (.int q1_), .val (.int r0_), .val (.int r1_), .val (.ref x0), .val (.ref x1), .val (.ref x2), .val (.ref x3), .val (.ref t1), .val (.int (own_teq (own_cs l1 n0_ n1_) (own_cs l3 q0_ q1_) (own_cs l1 n0_ n1_) (own_cs l3 q0_ q1_))), .val (.ref t2), .val (.int (1 : Int32)), .val (.int (own_teq (own_cs l1 n0_ n1_) (own_cs l3 q0_ q1_) (own_cs l2 m0_ m1_) (own_cs l4 r0_ r1_))), .val (.int (1 : Int32))] [(.int (1 : Int32))])) _
          refine XS.goto X237.here hx rfl (pc0 := 443) (pc' := 447) rfl (hb hby at_443) (by decide) (by decide) ?_
          exact k_)
        obtain ⟨fs, hr, hrun, hended, hWr, hW1, hW2, hsame⟩ := Jvm.Stand.leaveW (s := s) X237 hS220' (by rw [e237]; exact (Nat.le_refl _)) (v := some (.int (1 : Int32))) (fun h => by rw [Bd.returns] at h; cases h)
        refine ⟨_, _, pre238 _ ?_, hrun, hended, _, _, rfl, ?_, hWr, hW1, hW2, hsame.mono (by decide) (by decide)⟩
        · show Steps p.tables e below (T237.setTop (mkF m 447 #[.val (.int p1), .val (.int p2), .val (.int p3), .val (.int p4), .val (.int p5), .val (.int l1), .val (.int l2), .val (.int l3), .val (.int l4), .val (.int s1), .val (.int s2), .val (.int kd), .val (.int n0_), .val (.int n1_), .val (.int m0_), .val (.int m1_), .val (.int q0_), .val (.int q1_), .val (.int r0_), .val (.int r1_), .val (.ref x0), .val (.ref x1), .val (.ref x2), .val (.ref x3), .val (.ref t1), .val (.int (own_teq (own_cs l1 n0_ n1_) (own_cs l3 q0_ q1_) (own_cs l1 n0_ n1_) (own_cs l3 q0_ q1_))), .val (.ref t2), .val (.int (1 : Int32)), .val (.int (own_teq (own_cs l1 n0_ n1_) (own_cs l3 q0_ q1_) (own_cs l2 m0_ m1_) (own_cs l4 r0_ r1_))), .val (.int (1 : Int32))] [(.int (1 : Int32))])) _
          exact retN X237 hx (t := .boolean) Bd.returns (by simp) (hb hby at_447) hr
        · show Qrm0 Z p1 p2 p3 p4 p5 zc h0 n0 _ T237.heap _
          rw [e237]
          exact ⟨rfl, N237⟩
      · skip
        obtain ⟨cq239, kq239, q239a, q239b, q239c⟩ := isOf hZ220 e234 E_t1_226
        obtain ⟨_, _, ⟨T239, L239, k239, n239⟩, -, X239, ⟨Lc239, hQ239, l239, y239, z239⟩, st239⟩ := X234.virtualBack hx (y := (⟨"com/example/cranfield/cranfield/model/Topic", "equals", "(Ljava/lang/Object;)Z"⟩ : MethodName)) (z := (⟨"com/example/cranfield/cranfield/model/Topic", "equals", "(Ljava/lang/Object;)Z"⟩ : MethodName)) hown220 (mvT hZ220 (hw _ (List.mem_of_getElem? (i := 44) rfl))) (mvT hZ220 (hw _ (List.mem_of_getElem? (i := 45) rfl))) (notFace_of_selects (args := #[]) (mvT hZ220 (hw _ (List.mem_of_getElem? (i := 47) rfl)))) (mvT hZ220 (hw _ (List.mem_of_getElem? (i := 47) rfl))) (mvT hZ220 (hw _ (List.mem_of_getElem? (i := 46) rfl))) (by decide) (backOf (W := 0) (rmE2 l Z a0 hw [] t1 t2 x0 x2 x1 x3 (own_cs l1 n0_ n1_) (own_cs l3 q0_ q1_) (own_cs l2 m0_ m1_) (own_cs l4 r0_ r1_) zc T220.heap n0 Z230 E220 F0_t1_227 F1_t1_228 F0220 F1220 T_221 T_223 T_222 T_224 (S_c.ext O_231.2) hzc) hZ220 (hw _ (List.mem_of_getElem? (i := 48) rfl)) (hw _ (List.mem_of_getElem? (i := 28) rfl)) (by decide) (by decide)) q239a q239c (g := (mkF m 392 #[.val (.int p1), .val (.int p2), .val (.int p3), .val (.int p4), .val (.int p5), .val (.int l1), .val (.int l2), .val (.int l3), .val (.int l4), .val (.int s1), .val (.int s2), .val (.int kd), .val (.int n0_), .val (.int n1_), .val (.int m0_), .val (.int m1_), .val (.int q0_), .val (.int q1_), .val (.int r0_), .val (.int r1_), .val (.ref x0), .val (.ref x1), .val (.ref x2), .val (.ref x3), .val (.ref t1), .val (.int (own_teq (own_cs l1 n0_ n1_) (own_cs l3 q0_ q1_) (own_cs l1 n0_ n1_) (own_cs l3 q0_ q1_))), .val (.ref t2), .val (.int (0 : Int32)), .unset, .unset] [(.ref t2), (.ref t1)])) rfl (by rw [hml]; rfl) (Steps.refl _) (argsL := [(.ref t2)]) (rest := []) (lenOf pd_3 rfl) rfl (by show 2 * 0 + _ ≤ _; exact Nat.le_of_eq rfl) (hb hby at_392) (fun _ _ => ⟨rfl, e234, (by decide : 34 + 0 ≤ _), (by decide : 156 + 0 ≤ _)⟩)
        dsimp only [Pt.U, Pt.locs, Pt.cells, Pt.slots] at X239 l239 y239 z239 st239 hQ239
        subst l239 y239 z239
        obtain ⟨rfl, N239q, e239⟩ := hQ239
        have N239 := Fr.app N234 N239q
        obtain ⟨cq240, kq240, q240a, q240b, q240c⟩ := isOf hZ220 e239 E220
        obtain ⟨_, _, ⟨T240, L240, k240, n240⟩, -, X240, ⟨Lc240, hQ240, l240, y240, z240⟩, st240⟩ := X239.virtualBack hx (y := (⟨"java/lang/Object", "equals", "(Ljava/lang/Object;)Z"⟩ : MethodName)) (z := (⟨"com/example/cranfield/cranfield/model/Topic", "equals", "(Ljava/lang/Object;)Z"⟩ : MethodName)) hown220 (mvT hZ220 (hw _ (List.mem_of_getElem? (i := 65) rfl))) (mvT hZ220 (hw _ (List.mem_of_getElem? (i := 66) rfl))) (nf_top (args := #[]) (mvT hZ220 (hw _ (List.mem_of_getElem? (i := 80) rfl)))) (mvT hZ220 (hw _ (List.mem_of_getElem? (i := 68) rfl))) (mvT hZ220 (hw _ (List.mem_of_getElem? (i := 46) rfl))) (by decide) (backOf (W := 0) (rmE2 l Z a0 hw [] t2 t1 x1 x3 x0 x2 (own_cs l2 m0_ m1_) (own_cs l4 r0_ r1_) (own_cs l1 n0_ n1_) (own_cs l3 q0_ q1_) zc T220.heap n0 Z230 E_t1_226 F0220 F1220 F0_t1_227 F1_t1_228 T_222 T_224 T_221 T_223 (S_c.ext O_231.2) hzc) hZ220 (hw _ (List.mem_of_getElem? (i := 48) rfl)) (hw _ (List.mem_of_getElem? (i := 28) rfl)) (by decide) (by decide)) q240a q240c (g := (mkF m 410 #[.val (.int p1), .val (.int p2), .val (.int p3), .val (.int p4), .val (.int p5), .val (.int l1), .val (.int l2), .val (.int l3), .val (.int l4), .val (.int s1), .val (.int s2), .val (.int kd), .val (.int n0_), .val (.int n1_), .val (.int m0_), .val (.int m1_), .val (.int q0_), .val (.int q1_), .val (.int r0_), .val (.int r1_), .val (.ref x0), .val (.ref x1), .val (.ref x2), .val (.ref x3), .val (.ref t1), .val (.int (own_teq (own_cs l1 n0_ n1_) (own_cs l3 q0_ q1_) (own_cs l1 n0_ n1_) (own_cs l3 q0_ q1_))), .val (.ref t2), .val (.int (0 : Int32)), .val (.int (own_teq (own_cs l1 n0_ n1_) (own_cs l3 q0_ q1_) (own_cs l2 m0_ m1_) (own_cs l4 r0_ r1_))), .val (.int (1 : Int32))] [(.ref t1), (.ref t2)])) rfl (by rw [hml]; rfl) (Steps.refl _) (argsL := [(.ref t1)]) (rest := []) (lenOf pd_3 rfl) rfl (by show 2 * 0 + _ ≤ _; exact Nat.le_of_eq rfl) (hb hby at_410) (fun _ _ => ⟨rfl, e239, (by decide : 34 + 0 ≤ _), (by decide : 156 + 0 ≤ _)⟩)
        dsimp only [Pt.U, Pt.locs, Pt.cells, Pt.slots] at X240 l240 y240 z240 st240 hQ240
        subst l240 y240 z240
        obtain ⟨rfl, N240q, e240⟩ := hQ240
        have N240 := Fr.app N239 N240q
        have pre241 : ∀ t_, Steps p.tables e below (T240.setTop (mkF m 447 #[.val (.int p1), .val (.int p2), .val (.int p3), .val (.int p4), .val (.int p5), .val (.int l1), .val (.int l2), .val (.int l3), .val (.int l4), .val (.int s1), .val (.int s2), .val (.int kd), .val (.int n0_), .val (.int n1_), .val (.int m0_), .val (.int m1_), .val (.int q0_), .val (.int q1_), .val (.int r0_), .val (.int r1_), .val (.ref x0), .val (.ref x1), .val (.ref x2), .val (.ref x3), .val (.ref t1), .val (.int (own_teq (own_cs l1 n0_ n1_) (own_cs l3 q0_ q1_) (own_cs l1 n0_ n1_) (own_cs l3 q0_ q1_))), .val (.ref t2), .val (.int (0 : Int32)), .val (.int (own_teq (own_cs l1 n0_ n1_) (own_cs l3 q0_ q1_) (own_cs l2 m0_ m1_) (own_cs l4 r0_ r1_))), .val (.int (1 : Int32))] [(.int (1 : Int32))])) t_ → Steps p.tables e below (s₁.setTop (entryFrame m #[(.int p1), (.int p2), (.int p3), (.int p4), (.int p5)] maxLocals)) t_ := fun t_ k_ => pre235 _ (by
          show Steps p.tables e below (T234.setTop (mkF m 378 #[.val (.int p1), .val (.int p2), .val (.int p3), .val (.int p4), .val (.int p5), .val (.int l1), .val (.int l2), .val (.int l3), .val (.int l4), .val (.int s1), .val (.int s2), .val (.int kd), .val (.int n0_), .val (.int n1_), .val (.int m0_), .val (.int m1_), .val (.int q0_), .val (.int q1_), .val (.int r0_), .val (.int r1_), .val (.ref x0), .val (.ref x1), .val (.ref x2), .val (.ref x3), .val (.ref t1), .val (.int (own_teq (own_cs l1 n0_ n1_) (own_cs l3 q0_ q1_) (own_cs l1 n0_ n1_) (own_cs l3 q0_ q1_))), .val (.ref t2), .unset, .unset, .unset] [(.int (if own_cs l3 q0_ q1_ = own_cs l4 r0_ r1_ then (1 : Int32) else 0))])) _
          refine XS.ifYes X234.here hx rfl (pc0 := 378) (pc' := 385) rfl (hb hby at_378) rfl ((if0 _ _).trans (teq (by rw [if_neg hB])).1) (by decide) (by decide) ?_
          show Steps p.tables e below (T234.setTop (mkF m 385 #[.val (.int p1), .val (.int p2), .val (.int p3), .val (.int p4), .val (.int p5), .val (.int l1), .val (.int l2), .val (.int l3), .val (.int l4), .val (.int s1), .val (.int s2), .val (.int kd), .val (.int n0_), .val (.int n1_), .val (.int m0_), .val (.int m1_), .val (.int q0_), .val (.int q1_), .val (.int r0_), .val (.int r1_), .val (.ref x0), .val (.ref x1), .val (.ref x2), .val (.ref x3), .val (.ref t1), .val (.int (own_teq (own_cs l1 n0_ n1_) (own_cs l3 q0_ q1_) (own_cs l1 n0_ n1_) (own_cs l3 q0_ q1_))), .val (.ref t2), .unset, .unset, .unset] [])) _
          refine XS.iconst X234.here hx rfl (hb hby at_385) ?_
          show Steps p.tables e below (T234.setTop (mkF m 386 #[.val (.int p1), .val (.int p2), .val (.int p3), .val (.int p4), .val (.int p5), .val (.int l1), .val (.int l2), .val (.int l3), .val (.int l4), .val (.int s1), .val (.int s2), .val (.int kd), .val (.int n0_), .val (.int n1_), .val (.int m0_), .val (.int m1_), .val (.int q0_), .val (.int q1_), .val (.int r0_), .val (.int r1_), .val (.ref x0), .val (.ref x1), .val (.ref x2), .val (.ref x3), .val (.ref t1), .val (.int (own_teq (own_cs l1 n0_ n1_) (own_cs l3 q0_ q1_) (own_cs l1 n0_ n1_) (own_cs l3 q0_ q1_))), .val (.ref t2), .unset, .unset, .unset] [(.int (0 : Int32))])) _
          refine XS.istore X234.here hx rfl (hb hby at_386) rfl (l' := #[.val (.int p1), .val (.int p2), .val (.int p3), .val (.int p4), .val (.int p5), .val (.int l1), .val (.int l2), .val (.int l3), .val (.int l4), .val (.int s1), .val (.int s2), .val (.int kd), .val (.int n0_), .val (.int n1_), .val (.int m0_), .val (.int m1_), .val (.int q0_), .val (.int q1_), .val (.int r0_), .val (.int r1_), .val (.ref x0), .val (.ref x1), .val (.ref x2), .val (.ref x3), .val (.ref t1), .val (.int (own_teq (own_cs l1 n0_ n1_) (own_cs l3 q0_ q1_) (own_cs l1 n0_ n1_) (own_cs l3 q0_ q1_))), .val (.ref t2), .val (.int (0 : Int32)), .unset, .unset]) rfl ?_
          show Steps p.tables e below (T234.setTop (mkF m 388 #[.val (.int p1), .val (.int p2), .val (.int p3), .val (.int p4), .val (.int p5), .val (.int l1), .val (.int l2), .val (.int l3), .val (.int l4), .val (.int s1), .val (.int s2), .val (.int kd), .val (.int n0_), .val (.int n1_), .val (.int m0_), .val (.int m1_), .val (.int q0_), .val (.int q1_), .val (.int r0_), .val (.int r1_), .val (.ref x0), .val (.ref x1), .val (.ref x2), .val (.ref x3), .val (.ref t1), .val (.int (own_teq (own_cs l1 n0_ n1_) (own_cs l3 q0_ q1_) (own_cs l1 n0_ n1_) (own_cs l3 q0_ q1_))), .val (.ref t2), .val (.int (0 : Int32)), .unset, .unset] [])) _
          refine XS.aload X234.here hx rfl (hb hby at_388) rfl rfl ?_
          show Steps p.tables e below (T234.setTop (mkF m 390 #[.val (.int p1), .val (.int p2), .val (.int p3), .val (.int p4), .val (.int p5), .val (.int l1), .val (.int l2), .val (.int l3), .val (.int l4), .val (.int s1), .val (.int s2), .val (.int kd), .val (.int n0_), .val (.int n1_), .val (.int m0_), .val (.int m1_), .val (.int q0_), .val (.int q1_), .val (.int r0_), .val (.int r1_), .val (.ref x0), .val (.ref x1), .val (.ref x2), .val (.ref x3), .val (.ref t1), .val (.int (own_teq (own_cs l1 n0_ n1_) (own_cs l3 q0_ q1_) (own_cs l1 n0_ n1_) (own_cs l3 q0_ q1_))), .val (.ref t2), .val (.int (0 : Int32)), .unset, .unset] [(.ref t1)])) _
          refine XS.aload X234.here hx rfl (hb hby at_390) rfl rfl ?_
          show Steps p.tables e below (T234.setTop (mkF m 392 #[.val (.int p1), .val (.int p2), .val (.int p3), .val (.int p4), .val (.int p5), .val (.int l1), .val (.int l2), .val (.int l3), .val (.int l4), .val (.int s1), .val (.int s2), .val (.int kd), .val (.int n0_), .val (.int n1_), .val (.int m0_), .val (.int m1_), .val (.int q0_), .val (.int q1_), .val (.int r0_), .val (.int r1_), .val (.ref x0), .val (.ref x1), .val (.ref x2), .val (.ref x3), .val (.ref t1), .val (.int (own_teq (own_cs l1 n0_ n1_) (own_cs l3 q0_ q1_) (own_cs l1 n0_ n1_) (own_cs l3 q0_ q1_))), .val (.ref t2), .val (.int (0 : Int32)), .unset, .unset] [(.ref t2), (.ref t1)])) _
          refine st239.trans ?_
          show Steps p.tables e below (T239.setTop (mkF m 395 #[.val (.int p1), .val (.int p2), .val (.int p3), .val (.int p4), .val (.int p5), .val (.int l1), .val (.int l2), .val (.int l3), .val (.int l4), .val (.int s1), .val (.int s2), .val (.int kd), .val (.int n0_), .val (.int n1_), .val (.int m0_), .val (.int m1_), .val (.int q0_), .val (.int q1_), .val (.int r0_), .val (.int r1_), .val (.ref x0), .val (.ref x1), .val (.ref x2), .val (.ref x3), .val (.ref t1), .val (.int (own_teq (own_cs l1 n0_ n1_) (own_cs l3 q0_ q1_) (own_cs l1 n0_ n1_) (own_cs l3 q0_ q1_))), .val (.ref t2), .val (.int (0 : Int32)), .unset, .unset] [(.int (own_teq (own_cs l1 n0_ n1_) (own_cs l3 q0_ q1_) (own_cs l2 m0_ m1_) (own_cs l4 r0_ r1_)))])) _
          refine XS.istore X239.here hx rfl (hb hby at_395) rfl (l' := #[.val (.int p1), .val (.int p2), .val (.int p3), .val (.int p4), .val (.int p5), .val (.int l1), .val (.int l2), .val (.int l3), .val (.int l4), .val (.int s1), .val (.int s2), .val (.int kd), .val (.int n0_), .val (.int n1_), .val (.int m0_), .val (.int m1_), .val (.int q0_), .val (.int q1_), .val (.int r0_), .val (.int r1_), .val (.ref x0), .val (.ref x1), .val (.ref x2), .val (.ref x3), .val (.ref t1), .val (.int (own_teq (own_cs l1 n0_ n1_) (own_cs l3 q0_ q1_) (own_cs l1 n0_ n1_) (own_cs l3 q0_ q1_))), .val (.ref t2), .val (.int (0 : Int32)), .val (.int (own_teq (own_cs l1 n0_ n1_) (own_cs l3 q0_ q1_) (own_cs l2 m0_ m1_) (own_cs l4 r0_ r1_))), .unset]) rfl ?_
          show Steps p.tables e below (T239.setTop (mkF m 397 #[.val (.int p1), .val (.int p2), .val (.int p3), .val (.int p4), .val (.int p5), .val (.int l1), .val (.int l2), .val (.int l3), .val (.int l4), .val (.int s1), .val (.int s2), .val (.int kd), .val (.int n0_), .val (.int n1_), .val (.int m0_), .val (.int m1_), .val (.int q0_), .val (.int q1_), .val (.int r0_), .val (.int r1_), .val (.ref x0), .val (.ref x1), .val (.ref x2), .val (.ref x3), .val (.ref t1), .val (.int (own_teq (own_cs l1 n0_ n1_) (own_cs l3 q0_ q1_) (own_cs l1 n0_ n1_) (own_cs l3 q0_ q1_))), .val (.ref t2), .val (.int (0 : Int32)), .val (.int (own_teq (own_cs l1 n0_ n1_) (own_cs l3 q0_ q1_) (own_cs l2 m0_ m1_) (own_cs l4 r0_ r1_))), .unset] [])) _
          refine XS.iconst X239.here hx rfl (hb hby at_397) ?_
          show Steps p.tables e below (T239.setTop (mkF m 398 #[.val (.int p1), .val (.int p2), .val (.int p3), .val (.int p4), .val (.int p5), .val (.int l1), .val (.int l2), .val (.int l3), .val (.int l4), .val (.int s1), .val (.int s2), .val (.int kd), .val (.int n0_), .val (.int n1_), .val (.int m0_), .val (.int m1_), .val (.int q0_), .val (.int q1_), .val (.int r0_), .val (.int r1_), .val (.ref x0), .val (.ref x1), .val (.ref x2), .val (.ref x3), .val (.ref t1), .val (.int (own_teq (own_cs l1 n0_ n1_) (own_cs l3 q0_ q1_) (own_cs l1 n0_ n1_) (own_cs l3 q0_ q1_))), .val (.ref t2), .val (.int (0 : Int32)), .val (.int (own_teq (own_cs l1 n0_ n1_) (own_cs l3 q0_ q1_) (own_cs l2 m0_ m1_) (own_cs l4 r0_ r1_))), .unset] [(.int (1 : Int32))])) _
          refine XS.istore X239.here hx rfl (hb hby at_398) rfl (l' := #[.val (.int p1), .val (.int p2), .val (.int p3), .val (.int p4), .val (.int p5), .val (.int l1), .val (.int l2), .val (.int l3), .val (.int l4), .val (.int s1), .val (.int s2), .val (.int kd), .val (.int n0_), .val (.int n1_), .val (.int m0_), .val (.int m1_), .val (.int q0_), .val (.int q1_), .val (.int r0_), .val (.int r1_), .val (.ref x0), .val (.ref x1), .val (.ref x2), .val (.ref x3), .val (.ref t1), .val (.int (own_teq (own_cs l1 n0_ n1_) (own_cs l3 q0_ q1_) (own_cs l1 n0_ n1_) (own_cs l3 q0_ q1_))), .val (.ref t2), .val (.int (0 : Int32)), .val (.int (own_teq (own_cs l1 n0_ n1_) (own_cs l3 q0_ q1_) (own_cs l2 m0_ m1_) (own_cs l4 r0_ r1_))), .val (.int (1 : Int32))]) rfl ?_
          show Steps p.tables e below (T239.setTop (mkF m 400 #[.val (.int p1), .val (.int p2), .val (.int p3), .val (.int p4), .val (.int p5), .val (.int l1), .val (.int l2), .val (.int l3), .val (.int l4), .val (.int s1), .val (.int s2), .val (.int kd), .val (.int n0_), .val (.int n1_), .val (.int m0_), .val (.int m1_), .val (.int q0_), .val (.int q1_), .val (.int r0_), .val (.int r1_), .val (.ref x0), .val (.ref x1), .val (.ref x2), .val (.ref x3), .val (.ref t1), .val (.int (own_teq (own_cs l1 n0_ n1_) (own_cs l3 q0_ q1_) (own_cs l1 n0_ n1_) (own_cs l3 q0_ q1_))), .val (.ref t2), .val (.int (0 : Int32)), .val (.int (own_teq (own_cs l1 n0_ n1_) (own_cs l3 q0_ q1_) (own_cs l2 m0_ m1_) (own_cs l4 r0_ r1_))), .val (.int (1 : Int32))] [])) _
          refine XS.iload X239.here hx rfl (hb hby at_400) rfl ?_
          show Steps p.tables e below (T239.setTop (mkF m 402 #[.val (.int p1), .val (.int p2), .val (.int p3), .val (.int p4), .val (.int p5), .val (.int l1), .val (.int l2), .val (.int l3), .val (.int l4), .val (.int s1), .val (.int s2), .val (.int kd), .val (.int n0_), .val (.int n1_), .val (.int m0_), .val (.int m1_), .val (.int q0_), .val (.int q1_), .val (.int r0_), .val (.int r1_), .val (.ref x0), .val (.ref x1), .val (.ref x2), .val (.ref x3), .val (.ref t1), .val (.int (own_teq (own_cs l1 n0_ n1_) (own_cs l3 q0_ q1_) (own_cs l1 n0_ n1_) (own_cs l3 q0_ q1_))), .val (.ref t2), .val (.int (0 : Int32)), .val (.int (own_teq (own_cs l1 n0_ n1_) (own_cs l3 q0_ q1_) (own_cs l2 m0_ m1_) (own_cs l4 r0_ r1_))), .val (.int (1 : Int32))] [(.int kd)])) _
          refine XS.iconst X239.here hx rfl (hb hby at_402) ?_
          show Steps p.tables e below (T239.setTop (mkF m 403 #[.val (.int p1), .val (.int p2), .val (.int p3), .val (.int p4), .val (.int p5), .val (.int l1), .val (.int l2), .val (.int l3), .val (.int l4), .val (.int s1), .val (.int s2), .val (.int kd), .val (.int n0_), .val (.int n1_), .val (.int m0_), .val (.int m1_), .val (.int q0_), .val (.int q1_), .val (.int r0_), .val (.int r1_), .val (.ref x0), .val (.ref x1), .val (.ref x2), .val (.ref x3), .val (.ref t1), .val (.int (own_teq (own_cs l1 n0_ n1_) (own_cs l3 q0_ q1_) (own_cs l1 n0_ n1_) (own_cs l3 q0_ q1_))), .val (.ref t2), .val (.int (0 : Int32)), .val (.int (own_teq (own_cs l1 n0_ n1_) (own_cs l3 q0_ q1_) (own_cs l2 m0_ m1_) (own_cs l4 r0_ r1_))), .val (.int (1 : Int32))] [(.int (2 : Int32)), (.int kd)])) _
          refine XS.icmpNo X239.here hx rfl (hb hby at_403) rfl (tlt (by rw [q]; decide)).2.1 ?_
          show Steps p.tables e below (T239.setTop (mkF m 406 #[.val (.int p1), .val (.int p2), .val (.int p3), .val (.int p4), .val (.int p5), .val (.int l1), .val (.int l2), .val (.int l3), .val (.int l4), .val (.int s1), .val (.int s2), .val (.int kd), .val (.int n0_), .val (.int n1_), .val (.int m0_), .val (.int m1_), .val (.int q0_), .val (.int q1_), .val (.int r0_), .val (.int r1_), .val (.ref x0), .val (.ref x1), .val (.ref x2), .val (.ref x3), .val (.ref t1), .val (.int (own_teq (own_cs l1 n0_ n1_) (own_cs l3 q0_ q1_) (own_cs l1 n0_ n1_) (own_cs l3 q0_ q1_))), .val (.ref t2), .val (.int (0 : Int32)), .val (.int (own_teq (own_cs l1 n0_ n1_) (own_cs l3 q0_ q1_) (own_cs l2 m0_ m1_) (own_cs l4 r0_ r1_))), .val (.int (1 : Int32))] [])) _
          refine XS.aload X239.here hx rfl (hb hby at_406) rfl rfl ?_
          show Steps p.tables e below (T239.setTop (mkF m 408 #[.val (.int p1), .val (.int p2), .val (.int p3), .val (.int p4), .val (.int p5), .val (.int l1), .val (.int l2), .val (.int l3), .val (.int l4), .val (.int s1), .val (.int s2), .val (.int kd), .val (.int n0_), .val (.int n1_), .val (.int m0_), .val (.int m1_), .val (.int q0_), .val (.int q1_), .val (.int r0_), .val (.int r1_), .val (.ref x0), .val (.ref x1), .val (.ref x2), .val (.ref x3), .val (.ref t1), .val (.int (own_teq (own_cs l1 n0_ n1_) (own_cs l3 q0_ q1_) (own_cs l1 n0_ n1_) (own_cs l3 q0_ q1_))), .val (.ref t2), .val (.int (0 : Int32)), .val (.int (own_teq (own_cs l1 n0_ n1_) (own_cs l3 q0_ q1_) (own_cs l2 m0_ m1_) (own_cs l4 r0_ r1_))), .val (.int (1 : Int32))] [(.ref t2)])) _
          refine XS.aload X239.here hx rfl (hb hby at_408) rfl rfl ?_
          show Steps p.tables e below (T239.setTop (mkF m 410 #[.val (.int p1), .val (.int p2), .val (.int p3), .val (.int p4), .val (.int p5), .val (.int l1), .val (.int l2), .val (.int l3), .val (.int l4), .val (.int s1), .val (.int s2), .val (.int kd), .val (.int n0_), .val (.int n1_), .val (.int m0_), .val (.int m1_), .val (.int q0_), .val (.int q1_), .val (.int r0_), .val (.int r1_), .val (.ref x0), .val (.ref x1), .val (.ref x2), .val (.ref x3), .val (.ref t1), .val (.int (own_teq (own_cs l1 n0_ n1_) (own_cs l3 q0_ q1_) (own_cs l1 n0_ n1_) (own_cs l3 q0_ q1_))), .val (.ref t2), .val (.int (0 : Int32)), .val (.int (own_teq (own_cs l1 n0_ n1_) (own_cs l3 q0_ q1_) (own_cs l2 m0_ m1_) (own_cs l4 r0_ r1_))), .val (.int (1 : Int32))] [(.ref t1), (.ref t2)])) _
          refine st240.trans ?_
          show Steps p.tables e below (T240.setTop (mkF m 413 #[.val (.int p1), .val (.int p2), .val (.int p3), .val (.int p4), .val (.int p5), .val (.int l1), .val (.int l2), .val (.int l3), .val (.int l4), .val (.int s1), .val (.int s2), .val (.int kd), .val (.int n0_), .val (.int n1_), .val (.int m0_), .val (.int m1_), .val (.int q0_), .val (.int q1_), .val (.int r0_), .val (.int r1_), .val (.ref x0), .val (.ref x1), .val (.ref x2), .val (.ref x3), .val (.ref t1), .val (.int (own_teq (own_cs l1 n0_ n1_) (own_cs l3 q0_ q1_) (own_cs l1 n0_ n1_) (own_cs l3 q0_ q1_))), .val (.ref t2), .val (.int (0 : Int32)), .val (.int (own_teq (own_cs l1 n0_ n1_) (own_cs l3 q0_ q1_) (own_cs l2 m0_ m1_) (own_cs l4 r0_ r1_))), .val (.int (1 : Int32))] [(.int (own_teq (own_cs l2 m0_ m1_) (own_cs l4 r0_ r1_) (own_cs l1 n0_ n1_) (own_cs l3 q0_ q1_)))])) _
          refine XS.iload X240.here hx rfl (hb hby at_413) rfl ?_
          show Steps p.tables e below (T240.setTop (mkF m 415 #[.val (.int p1), .val (.int p2), .val (.int p3), .val (.int p4), .val (.int p5), .val (.int l1), .val (.int l2), .val (.int l3), .val (.int l4), .val (.int s1), .val (.int s2), .val (.int kd), .val (.int n0_), .val (.int n1_), .val (.int m0_), .val (.int m1_), .val (.int q0_), .val (.int q1_), .val (.int r0_), .val (.int r1_), .val (.ref x0), .val (.ref x1), .val (.ref x2), .val (.ref x3), .val (.ref t1), .val (.int (own_teq (own_cs l1 n0_ n1_) (own_cs l3 q0_ q1_) (own_cs l1 n0_ n1_) (own_cs l3 q0_ q1_))), .val (.ref t2), .val (.int (0 : Int32)), .val (.int (own_teq (own_cs l1 n0_ n1_) (own_cs l3 q0_ q1_) (own_cs l2 m0_ m1_) (own_cs l4 r0_ r1_))), .val (.int (1 : Int32))] [(.int (own_teq (own_cs l1 n0_ n1_) (own_cs l3 q0_ q1_) (own_cs l2 m0_ m1_) (own_cs l4 r0_ r1_))), (.int (own_teq (own_cs l2 m0_ m1_) (own_cs l4 r0_ r1_) (own_cs l1 n0_ n1_) (own_cs l3 q0_ q1_)))])) _
          refine XS.icmpNo X240.here hx rfl (hb hby at_415) rfl (teq (own_teqc _ _ _ _)).2 ?_
          show Steps p.tables e below (T240.setTop (mkF m 418 #[.val (.int p1), .val (.int p2), .val (.int p3), .val (.int p4), .val (.int p5), .val (.int l1), .val (.int l2), .val (.int l3), .val (.int l4), .val (.int s1), .val (.int s2), .val (.int kd), .val (.int n0_), .val (.int n1_), .val (.int m0_), .val (.int m1_), .val (.int q0_), .val (.int q1_), .val (.int r0_), .val (.int r1_), .val (.ref x0), .val (.ref x1), .val (.ref x2), .val (.ref x3), .val (.ref t1), .val (.int (own_teq (own_cs l1 n0_ n1_) (own_cs l3 q0_ q1_) (own_cs l1 n0_ n1_) (own_cs l3 q0_ q1_))), .val (.ref t2), .val (.int (0 : Int32)), .val (.int (own_teq (own_cs l1 n0_ n1_) (own_cs l3 q0_ q1_) (own_cs l2 m0_ m1_) (own_cs l4 r0_ r1_))), .val (.int (1 : Int32))] [])) _
          refine XS.iconst X240.here hx rfl (hb hby at_418) ?_
          show Steps p.tables e below (T240.setTop (mkF m 419 #[.val (.int p1), .val (.int p2), .val (.int p3), .val (.int p4), .val (.int p5), .val (.int l1), .val (.int l2), .val (.int l3), .val (.int l4), .val (.int s1), .val (.int s2), .val (.int kd), .val (.int n0_), .val (.int n1_), .val (.int m0_), .val (.int m1_), .val (.int q0_), .val (.int q1_), .val (.int r0_), .val (.int r1_), .val (.ref x0), .val (.ref x1), .val (.ref x2), .val (.ref x3), .val (.ref t1), .val (.int (own_teq (own_cs l1 n0_ n1_) (own_cs l3 q0_ q1_) (own_cs l1 n0_ n1_) (own_cs l3 q0_ q1_))), .val (.ref t2), .val (.int (0 : Int32)), .val (.int (own_teq (own_cs l1 n0_ n1_) (own_cs l3 q0_ q1_) (own_cs l2 m0_ m1_) (own_cs l4 r0_ r1_))), .val (.int (1 : Int32))] [(.int (1 : Int32))])) _
          refine XS.goto X240.here hx rfl (pc0 := 419) (pc' := 423) rfl (hb hby at_419) (by decide) (by decide) ?_
          show Steps p.tables e below (T240.setTop (mkF m 423 #[.val (.int p1), .val (.int p2), .val (.int p3), .val (.int p4), .val (.int p5), .val (.int l1), .val (.int l2), .val (.int l3), .val (.int l4), .val (.int s1), .val (.int s2), .val (.int kd), .val (.int n0_), .val (.int n1_), .val (.int m0_), .val (.int m1_), .val (.int q0_), .val (.int q1_), .val (.int r0_), .val (.int r1_), .val (.ref x0), .val (.ref x1), .val (.ref x2), .val (.ref x3), .val (.ref t1), .val (.int (own_teq (own_cs l1 n0_ n1_) (own_cs l3 q0_ q1_) (own_cs l1 n0_ n1_) (own_cs l3 q0_ q1_))), .val (.ref t2), .val (.int (0 : Int32)), .val (.int (own_teq (own_cs l1 n0_ n1_) (own_cs l3 q0_ q1_) (own_cs l2 m0_ m1_) (own_cs l4 r0_ r1_))), .val (.int (1 : Int32))] [(.int (1 : Int32))])) _
          refine XS.istore X240.here hx rfl (hb hby at_423) rfl (l' := #[.val (.int p1), .val (.int p2), .val (.int p3), .val (.int p4), .val (.int p5), .val (.int l1), .val (.int l2), .val (.int l3), .val (.int l4), .val (.int s1), .val (.int s2), .val (.int kd), .val (.int n0_), .val (.int n1_), .val (.int m0_), .val (.int m1_), .val (.int q0_), .val (.int q1_), .val (.int r0_), .val (.int r1_), .val (.ref x0), .val (.ref x1), .val (.ref x2), .val (.ref x3), .val (.ref t1), .val (.int (own_teq (own_cs l1 n0_ n1_) (own_cs l3 q0_ q1_) (own_cs l1 n0_ n1_) (own_cs l3 q0_ q1_))), .val (.ref t2), .val (.int (0 : Int32)), .val (.int (own_teq (own_cs l1 n0_ n1_) (own_cs l3 q0_ q1_) (own_cs l2 m0_ m1_) (own_cs l4 r0_ r1_))), .val (.int (1 : Int32))]) rfl ?_
          show Steps p.tables e below (T240.setTop (mkF m 425 #[.val (.int p1), .val (.int p2), .val (.int p3), .val (.int p4), .val (.int p5), .val (.int l1), .val (.int l2), .val (.int l3), .val (.int l4), .val (.int s1), .val (.int s2), .val (.int kd), .val (.int n0_), .val (.int n1_), .val (.int m0_), .val (.int m1_), .val (.int q0_), .val (.int q1_), .val (.int r0_), .val (.int r1_), .val (.ref x0), .val (.ref x1), .val (.ref x2), .val (.ref x3), .val (.ref t1), .val (.int (own_teq (own_cs l1 n0_ n1_) (own_cs l3 q0_ q1_) (own_cs l1 n0_ n1_) (own_cs l3 q0_ q1_))), .val (.ref t2), .val (.int (0 : Int32)), .val (.int (own_teq (own_cs l1 n0_ n1_) (own_cs l3 q0_ q1_) (own_cs l2 m0_ m1_) (own_cs l4 r0_ r1_))), .val (.int (1 : Int32))] [])) _
          refine XS.iload X240.here hx rfl (hb hby at_425) rfl ?_
          show Steps p.tables e below (T240.setTop (mkF m 427 #[.val (.int p1), .val (.int p2), .val (.int p3), .val (.int p4), .val (.int p5), .val (.int l1), .val (.int l2), .val (.int l3), .val (.int l4), .val (.int s1), .val (.int s2), .val (.int kd), .val (.int n0_), .val (.int n1_), .val (.int m0_), .val (.int m1_), .val (.int q0_), .val (.int q1_), .val (.int r0_), .val (.int r1_), .val (.ref x0), .val (.ref x1), .val (.ref x2), .val (.ref x3), .val (.ref t1), .val (.int (own_teq (own_cs l1 n0_ n1_) (own_cs l3 q0_ q1_) (own_cs l1 n0_ n1_) (own_cs l3 q0_ q1_))), .val (.ref t2), .val (.int (0 : Int32)), .val (.int (own_teq (own_cs l1 n0_ n1_) (own_cs l3 q0_ q1_) (own_cs l2 m0_ m1_) (own_cs l4 r0_ r1_))), .val (.int (1 : Int32))] [(.int (own_teq (own_cs l1 n0_ n1_) (own_cs l3 q0_ q1_) (own_cs l1 n0_ n1_) (own_cs l3 q0_ q1_)))])) _
          refine XS.ifNo X240.here hx rfl (hb hby at_427) rfl ((if0 _ _).trans (feq (by rw [own_teqs]; decide)).1) ?_
          show Steps p.tables e below (T240.setTop (mkF m 430 #[.val (.int p1), .val (.int p2), .val (.int p3), .val (.int p4), .val (.int p5), .val (.int l1), .val (.int l2), .val (.int l3), .val (.int l4), .val (.int s1), .val (.int s2), .val (.int kd), .val (.int n0_), .val (.int n1_), .val (.int m0_), .val (.int m1_), .val (.int q0_), .val (.int q1_), .val (.int r0_), .val (.int r1_), .val (.ref x0), .val (.ref x1), .val (.ref x2), .val (.ref x3), .val (.ref t1), .val (.int (own_teq (own_cs l1 n0_ n1_) (own_cs l3 q0_ q1_) (own_cs l1 n0_ n1_) (own_cs l3 q0_ q1_))), .val (.ref t2), .val (.int (0 : Int32)), .val (.int (own_teq (own_cs l1 n0_ n1_) (own_cs l3 q0_ q1_) (own_cs l2 m0_ m1_) (own_cs l4 r0_ r1_))), .val (.int (1 : Int32))] [])) _
          refine XS.iload X240.here hx rfl (hb hby at_430) rfl ?_
          show Steps p.tables e below (T240.setTop (mkF m 432 #[.val (.int p1), .val (.int p2), .val (.int p3), .val (.int p4), .val (.int p5), .val (.int l1), .val (.int l2), .val (.int l3), .val (.int l4), .val (.int s1), .val (.int s2), .val (.int kd), .val (.int n0_), .val (.int n1_), .val (.int m0_), .val (.int m1_), .val (.int q0_), .val (.int q1_), .val (.int r0_), .val (.int r1_), .val (.ref x0), .val (.ref x1), .val (.ref x2), .val (.ref x3), .val (.ref t1), .val (.int (own_teq (own_cs l1 n0_ n1_) (own_cs l3 q0_ q1_) (own_cs l1 n0_ n1_) (own_cs l3 q0_ q1_))), .val (.ref t2), .val (.int (0 : Int32)), .val (.int (own_teq (own_cs l1 n0_ n1_) (own_cs l3 q0_ q1_) (own_cs l2 m0_ m1_) (own_cs l4 r0_ r1_))), .val (.int (1 : Int32))] [(.int (own_teq (own_cs l1 n0_ n1_) (own_cs l3 q0_ q1_) (own_cs l2 m0_ m1_) (own_cs l4 r0_ r1_)))])) _
          refine XS.iload X240.here hx rfl (hb hby at_432) rfl ?_
          show Steps p.tables e below (T240.setTop (mkF m 434 #[.val (.int p1), .val (.int p2), .val (.int p3), .val (.int p4), .val (.int p5), .val (.int l1), .val (.int l2), .val (.int l3), .val (.int l4), .val (.int s1), .val (.int s2), .val (.int kd), .val (.int n0_), .val (.int n1_), .val (.int m0_), .val (.int m1_), .val (.int q0_), .val (.int q1_), .val (.int r0_), .val (.int r1_), .val (.ref x0), .val (.ref x1), .val (.ref x2), .val (.ref x3), .val (.ref t1), .val (.int (own_teq (own_cs l1 n0_ n1_) (own_cs l3 q0_ q1_) (own_cs l1 n0_ n1_) (own_cs l3 q0_ q1_))), .val (.ref t2), .val (.int (0 : Int32)), .val (.int (own_teq (own_cs l1 n0_ n1_) (own_cs l3 q0_ q1_) (own_cs l2 m0_ m1_) (own_cs l4 r0_ r1_))), .val (.int (1 : Int32))] [(.int (0 : Int32)), (.int (own_teq (own_cs l1 n0_ n1_) (own_cs l3 q0_ q1_) (own_cs l2 m0_ m1_) (own_cs l4 r0_ r1_)))])) _
          refine XS.icmpNo X240.here hx rfl (hb hby at_434) rfl (teq (by rw [own_teq, if_pos hA, if_neg hB])).2 ?_
          show Steps p.tables e below (T240.setTop (mkF m 437 #[.val (.int p1), .val (.int p2), .val (.int p3), .val (.int p4), .val (.int p5), .val (.int l1), .val (.int l2), .val (.int l3), .val (.int l4), .val (.int s1), .val (.int s2), .val (.int kd), .val (.int n0_), .val (.int n1_), .val (.int m0_), .val (.int m1_), .val (.int q0_), .val (.int q1_), .val (.int r0_), .val (.int r1_), .val (.ref x0), .val (.ref x1), .val (.ref x2), .val (.ref x3), .val (.ref t1), .val (.int (own_teq (own_cs l1 n0_ n1_) (own_cs l3 q0_ q1_) (own_cs l1 n0_ n1_) (own_cs l3 q0_ q1_))), .val (.ref t2), .val (.int (0 : Int32)), .val (.int (own_teq (own_cs l1 n0_ n1_) (own_cs l3 q0_ q1_) (own_cs l2 m0_ m1_) (own_cs l4 r0_ r1_))), .val (.int (1 : Int32))] [])) _
          refine XS.iload X240.here hx rfl (hb hby at_437) rfl ?_
          show Steps p.tables e below (T240.setTop (mkF m 439 #[.val (.int p1), .val (.int p2), .val (.int p3), .val (.int p4), .val (.int p5), .val (.int l1), .val (.int l2), .val (.int l3), .val (.int l4), .val (.int s1), .val (.int s2), .val (.int kd), .val (.int n0_), .val (.int n1_), .val (.int m0_), .val (.int m1_), .val (.int q0_), .val (.int q1_), .val (.int r0_), .val (.int r1_), .val (.ref x0), .val (.ref x1), .val (.ref x2), .val (.ref x3), .val (.ref t1), .val (.int (own_teq (own_cs l1 n0_ n1_) (own_cs l3 q0_ q1_) (own_cs l1 n0_ n1_) (own_cs l3 q0_ q1_))), .val (.ref t2), .val (.int (0 : Int32)), .val (.int (own_teq (own_cs l1 n0_ n1_) (own_cs l3 q0_ q1_) (own_cs l2 m0_ m1_) (own_cs l4 r0_ r1_))), .val (.int (1 : Int32))] [(.int (1 : Int32))])) _
          refine XS.ifNo X240.here hx rfl (hb hby at_439) rfl ((if0 _ _).trans (feq (by decide : ¬ (1 : Int32) = 0)).1) ?_
          show Steps p.tables e below (T240.setTop (mkF m 442 #[.val (.int p1), .val (.int p2), .val (.int p3), .val (.int p4), .val (.int p5), .val (.int l1), .val (.int l2), .val (.int l3), .val (.int l4), .val (.int s1), .val (.int s2), .val (.int kd), .val (.int n0_), .val (.int n1_), .val (.int m0_), .val (.int m1_), .val (.int q0_), .val (.int q1_), .val (.int r0_), .val (.int r1_), .val (.ref x0), .val (.ref x1), .val (.ref x2), .val (.ref x3), .val (.ref t1), .val (.int (own_teq (own_cs l1 n0_ n1_) (own_cs l3 q0_ q1_) (own_cs l1 n0_ n1_) (own_cs l3 q0_ q1_))), .val (.ref t2), .val (.int (0 : Int32)), .val (.int (own_teq (own_cs l1 n0_ n1_) (own_cs l3 q0_ q1_) (own_cs l2 m0_ m1_) (own_cs l4 r0_ r1_))), .val (.int (1 : Int32))] [])) _
          refine XS.iconst X240.here hx rfl (hb hby at_442) ?_
          show Steps p.tables e below (T240.setTop (mkF m 443 #[.val (.int p1), .val (.int p2), .val (.int p3), .val (.int p4), .val (.int p5), .val (.int l1), .val (.int l2), .val (.int l3), .val (.int l4), .val (.int s1), .val (.int s2), .val (.int kd), .val (.int n0_), .val (.int n1_), .val (.int m0_), .val (.int m1_), .val (.int q0_), .val (.int q1_), .val (.int r0_), .val (.int r1_), .val (.ref x0), .val (.ref x1), .val (.ref x2), .val (.ref x3), .val (.ref t1), .val (.int (own_teq (own_cs l1 n0_ n1_) (own_cs l3 q0_ q1_) (own_cs l1 n0_ n1_) (own_cs l3 q0_ q1_))), .val (.ref t2), .val (.int (0 : Int32)), .val (.int (own_teq (own_cs l1 n0_ n1_) (own_cs l3 q0_ q1_) (own_cs l2 m0_ m1_) (own_cs l4 r0_ r1_))), .val (.int (1 : Int32))] [(.int (1 : Int32))])) _
          refine XS.goto X240.here hx rfl (pc0 := 443) (pc' := 447) rfl (hb hby at_443) (by decide) (by decide) ?_
          exact k_)
        obtain ⟨fs, hr, hrun, hended, hWr, hW1, hW2, hsame⟩ := Jvm.Stand.leaveW (s := s) X240 hS220' (by rw [e240]; exact (Nat.le_refl _)) (v := some (.int (1 : Int32))) (fun h => by rw [Bd.returns] at h; cases h)
        refine ⟨_, _, pre241 _ ?_, hrun, hended, _, _, rfl, ?_, hWr, hW1, hW2, hsame.mono (by decide) (by decide)⟩
        · show Steps p.tables e below (T240.setTop (mkF m 447 #[.val (.int p1), .val (.int p2), .val (.int p3), .val (.int p4), .val (.int p5), .val (.int l1), .val (.int l2), .val (.int l3), .val (.int l4), .val (.int s1), .val (.int s2), .val (.int kd), .val (.int n0_), .val (.int n1_), .val (.int m0_), .val (.int m1_), .val (.int q0_), .val (.int q1_), .val (.int r0_), .val (.int r1_), .val (.ref x0), .val (.ref x1), .val (.ref x2), .val (.ref x3), .val (.ref t1), .val (.int (own_teq (own_cs l1 n0_ n1_) (own_cs l3 q0_ q1_) (own_cs l1 n0_ n1_) (own_cs l3 q0_ q1_))), .val (.ref t2), .val (.int (0 : Int32)), .val (.int (own_teq (own_cs l1 n0_ n1_) (own_cs l3 q0_ q1_) (own_cs l2 m0_ m1_) (own_cs l4 r0_ r1_))), .val (.int (1 : Int32))] [(.int (1 : Int32))])) _
          exact retN X240 hx (t := .boolean) Bd.returns (by simp) (hb hby at_447) hr
        · show Qrm0 Z p1 p2 p3 p4 p5 zc h0 n0 _ T240.heap _
          rw [e240]
          exact ⟨rfl, N240⟩
    · skip
      obtain ⟨cq242, kq242, q242a, q242b, q242c⟩ := isOf hZ220 e232 E_t1_226
      obtain ⟨_, _, ⟨T242, L242, k242, n242⟩, -, X242, ⟨Lc242, hQ242, l242, y242, z242⟩, st242⟩ := X232.virtualBack hx (y := (⟨"com/example/cranfield/cranfield/model/Topic", "equals", "(Ljava/lang/Object;)Z"⟩ : MethodName)) (z := (⟨"com/example/cranfield/cranfield/model/Topic", "equals", "(Ljava/lang/Object;)Z"⟩ : MethodName)) hown220 (mvT hZ220 (hw _ (List.mem_of_getElem? (i := 44) rfl))) (mvT hZ220 (hw _ (List.mem_of_getElem? (i := 45) rfl))) (notFace_of_selects (args := #[]) (mvT hZ220 (hw _ (List.mem_of_getElem? (i := 47) rfl)))) (mvT hZ220 (hw _ (List.mem_of_getElem? (i := 47) rfl))) (mvT hZ220 (hw _ (List.mem_of_getElem? (i := 46) rfl))) (by decide) (backOf (W := 0) (rmE2 l Z a0 hw [] t1 t2 x0 x2 x1 x3 (own_cs l1 n0_ n1_) (own_cs l3 q0_ q1_) (own_cs l2 m0_ m1_) (own_cs l4 r0_ r1_) zc T220.heap n0 Z230 E220 F0_t1_227 F1_t1_228 F0220 F1220 T_221 T_223 T_222 T_224 (S_c.ext O_231.2) hzc) hZ220 (hw _ (List.mem_of_getElem? (i := 48) rfl)) (hw _ (List.mem_of_getElem? (i := 28) rfl)) (by decide) (by decide)) q242a q242c (g := (mkF m 392 #[.val (.int p1), .val (.int p2), .val (.int p3), .val (.int p4), .val (.int p5), .val (.int l1), .val (.int l2), .val (.int l3), .val (.int l4), .val (.int s1), .val (.int s2), .val (.int kd), .val (.int n0_), .val (.int n1_), .val (.int m0_), .val (.int m1_), .val (.int q0_), .val (.int q1_), .val (.int r0_), .val (.int r1_), .val (.ref x0), .val (.ref x1), .val (.ref x2), .val (.ref x3), .val (.ref t1), .val (.int (own_teq (own_cs l1 n0_ n1_) (own_cs l3 q0_ q1_) (own_cs l1 n0_ n1_) (own_cs l3 q0_ q1_))), .val (.ref t2), .val (.int (0 : Int32)), .unset, .unset] [(.ref t2), (.ref t1)])) rfl (by rw [hml]; rfl) (Steps.refl _) (argsL := [(.ref t2)]) (rest := []) (lenOf pd_3 rfl) rfl (by show 2 * 0 + _ ≤ _; exact Nat.le_of_eq rfl) (hb hby at_392) (fun _ _ => ⟨rfl, e232, (by decide : 34 + 0 ≤ _), (by decide : 156 + 0 ≤ _)⟩)
      dsimp only [Pt.U, Pt.locs, Pt.cells, Pt.slots] at X242 l242 y242 z242 st242 hQ242
      subst l242 y242 z242
      obtain ⟨rfl, N242q, e242⟩ := hQ242
      have N242 := Fr.app N232 N242q
      obtain ⟨cq243, kq243, q243a, q243b, q243c⟩ := isOf hZ220 e242 E220
      obtain ⟨_, _, ⟨T243, L243, k243, n243⟩, -, X243, ⟨Lc243, hQ243, l243, y243, z243⟩, st243⟩ := X242.virtualBack hx (y := (⟨"java/lang/Object", "equals", "(Ljava/lang/Object;)Z"⟩ : MethodName)) (z := (⟨"com/example/cranfield/cranfield/model/Topic", "equals", "(Ljava/lang/Object;)Z"⟩ : MethodName)) hown220 (mvT hZ220 (hw _ (List.mem_of_getElem? (i := 65) rfl))) (mvT hZ220 (hw _ (List.mem_of_getElem? (i := 66) rfl))) (nf_top (args := #[]) (mvT hZ220 (hw _ (List.mem_of_getElem? (i := 80) rfl)))) (mvT hZ220 (hw _ (List.mem_of_getElem? (i := 68) rfl))) (mvT hZ220 (hw _ (List.mem_of_getElem? (i := 46) rfl))) (by decide) (backOf (W := 0) (rmE2 l Z a0 hw [] t2 t1 x1 x3 x0 x2 (own_cs l2 m0_ m1_) (own_cs l4 r0_ r1_) (own_cs l1 n0_ n1_) (own_cs l3 q0_ q1_) zc T220.heap n0 Z230 E_t1_226 F0220 F1220 F0_t1_227 F1_t1_228 T_222 T_224 T_221 T_223 (S_c.ext O_231.2) hzc) hZ220 (hw _ (List.mem_of_getElem? (i := 48) rfl)) (hw _ (List.mem_of_getElem? (i := 28) rfl)) (by decide) (by decide)) q243a q243c (g := (mkF m 410 #[.val (.int p1), .val (.int p2), .val (.int p3), .val (.int p4), .val (.int p5), .val (.int l1), .val (.int l2), .val (.int l3), .val (.int l4), .val (.int s1), .val (.int s2), .val (.int kd), .val (.int n0_), .val (.int n1_), .val (.int m0_), .val (.int m1_), .val (.int q0_), .val (.int q1_), .val (.int r0_), .val (.int r1_), .val (.ref x0), .val (.ref x1), .val (.ref x2), .val (.ref x3), .val (.ref t1), .val (.int (own_teq (own_cs l1 n0_ n1_) (own_cs l3 q0_ q1_) (own_cs l1 n0_ n1_) (own_cs l3 q0_ q1_))), .val (.ref t2), .val (.int (0 : Int32)), .val (.int (own_teq (own_cs l1 n0_ n1_) (own_cs l3 q0_ q1_) (own_cs l2 m0_ m1_) (own_cs l4 r0_ r1_))), .val (.int (1 : Int32))] [(.ref t1), (.ref t2)])) rfl (by rw [hml]; rfl) (Steps.refl _) (argsL := [(.ref t1)]) (rest := []) (lenOf pd_3 rfl) rfl (by show 2 * 0 + _ ≤ _; exact Nat.le_of_eq rfl) (hb hby at_410) (fun _ _ => ⟨rfl, e242, (by decide : 34 + 0 ≤ _), (by decide : 156 + 0 ≤ _)⟩)
      dsimp only [Pt.U, Pt.locs, Pt.cells, Pt.slots] at X243 l243 y243 z243 st243 hQ243
      subst l243 y243 z243
      obtain ⟨rfl, N243q, e243⟩ := hQ243
      have N243 := Fr.app N242 N243q
      have pre244 : ∀ t_, Steps p.tables e below (T243.setTop (mkF m 447 #[.val (.int p1), .val (.int p2), .val (.int p3), .val (.int p4), .val (.int p5), .val (.int l1), .val (.int l2), .val (.int l3), .val (.int l4), .val (.int s1), .val (.int s2), .val (.int kd), .val (.int n0_), .val (.int n1_), .val (.int m0_), .val (.int m1_), .val (.int q0_), .val (.int q1_), .val (.int r0_), .val (.int r1_), .val (.ref x0), .val (.ref x1), .val (.ref x2), .val (.ref x3), .val (.ref t1), .val (.int (own_teq (own_cs l1 n0_ n1_) (own_cs l3 q0_ q1_) (own_cs l1 n0_ n1_) (own_cs l3 q0_ q1_))), .val (.ref t2), .val (.int (0 : Int32)), .val (.int (own_teq (own_cs l1 n0_ n1_) (own_cs l3 q0_ q1_) (own_cs l2 m0_ m1_) (own_cs l4 r0_ r1_))), .val (.int (1 : Int32))] [(.int (1 : Int32))])) t_ → Steps p.tables e below (s₁.setTop (entryFrame m #[(.int p1), (.int p2), (.int p3), (.int p4), (.int p5)] maxLocals)) t_ := fun t_ k_ => pre233 _ (by
        show Steps p.tables e below (T232.setTop (mkF m 360 #[.val (.int p1), .val (.int p2), .val (.int p3), .val (.int p4), .val (.int p5), .val (.int l1), .val (.int l2), .val (.int l3), .val (.int l4), .val (.int s1), .val (.int s2), .val (.int kd), .val (.int n0_), .val (.int n1_), .val (.int m0_), .val (.int m1_), .val (.int q0_), .val (.int q1_), .val (.int r0_), .val (.int r1_), .val (.ref x0), .val (.ref x1), .val (.ref x2), .val (.ref x3), .val (.ref t1), .val (.int (own_teq (own_cs l1 n0_ n1_) (own_cs l3 q0_ q1_) (own_cs l1 n0_ n1_) (own_cs l3 q0_ q1_))), .val (.ref t2), .unset, .unset, .unset] [(.int (if own_cs l1 n0_ n1_ = own_cs l2 m0_ m1_ then (1 : Int32) else 0))])) _
        refine XS.ifYes X232.here hx rfl (pc0 := 360) (pc' := 385) rfl (hb hby at_360) rfl ((if0 _ _).trans (teq (by rw [if_neg hA])).1) (by decide) (by decide) ?_
        show Steps p.tables e below (T232.setTop (mkF m 385 #[.val (.int p1), .val (.int p2), .val (.int p3), .val (.int p4), .val (.int p5), .val (.int l1), .val (.int l2), .val (.int l3), .val (.int l4), .val (.int s1), .val (.int s2), .val (.int kd), .val (.int n0_), .val (.int n1_), .val (.int m0_), .val (.int m1_), .val (.int q0_), .val (.int q1_), .val (.int r0_), .val (.int r1_), .val (.ref x0), .val (.ref x1), .val (.ref x2), .val (.ref x3), .val (.ref t1), .val (.int (own_teq (own_cs l1 n0_ n1_) (own_cs l3 q0_ q1_) (own_cs l1 n0_ n1_) (own_cs l3 q0_ q1_))), .val (.ref t2), .unset, .unset, .unset] [])) _
        refine XS.iconst X232.here hx rfl (hb hby at_385) ?_
        show Steps p.tables e below (T232.setTop (mkF m 386 #[.val (.int p1), .val (.int p2), .val (.int p3), .val (.int p4), .val (.int p5), .val (.int l1), .val (.int l2), .val (.int l3), .val (.int l4), .val (.int s1), .val (.int s2), .val (.int kd), .val (.int n0_), .val (.int n1_), .val (.int m0_), .val (.int m1_), .val (.int q0_), .val (.int q1_), .val (.int r0_), .val (.int r1_), .val (.ref x0), .val (.ref x1), .val (.ref x2), .val (.ref x3), .val (.ref t1), .val (.int (own_teq (own_cs l1 n0_ n1_) (own_cs l3 q0_ q1_) (own_cs l1 n0_ n1_) (own_cs l3 q0_ q1_))), .val (.ref t2), .unset, .unset, .unset] [(.int (0 : Int32))])) _
        refine XS.istore X232.here hx rfl (hb hby at_386) rfl (l' := #[.val (.int p1), .val (.int p2), .val (.int p3), .val (.int p4), .val (.int p5), .val (.int l1), .val (.int l2), .val (.int l3), .val (.int l4), .val (.int s1), .val (.int s2), .val (.int kd), .val (.int n0_), .val (.int n1_), .val (.int m0_), .val (.int m1_), .val (.int q0_), .val (.int q1_), .val (.int r0_), .val (.int r1_), .val (.ref x0), .val (.ref x1), .val (.ref x2), .val (.ref x3), .val (.ref t1), .val (.int (own_teq (own_cs l1 n0_ n1_) (own_cs l3 q0_ q1_) (own_cs l1 n0_ n1_) (own_cs l3 q0_ q1_))), .val (.ref t2), .val (.int (0 : Int32)), .unset, .unset]) rfl ?_
        show Steps p.tables e below (T232.setTop (mkF m 388 #[.val (.int p1), .val (.int p2), .val (.int p3), .val (.int p4), .val (.int p5), .val (.int l1), .val (.int l2), .val (.int l3), .val (.int l4), .val (.int s1), .val (.int s2), .val (.int kd), .val (.int n0_), .val (.int n1_), .val (.int m0_), .val (.int m1_), .val (.int q0_), .val (.int q1_), .val (.int r0_), .val (.int r1_), .val (.ref x0), .val (.ref x1), .val (.ref x2), .val (.ref x3), .val (.ref t1), .val (.int (own_teq (own_cs l1 n0_ n1_) (own_cs l3 q0_ q1_) (own_cs l1 n0_ n1_) (own_cs l3 q0_ q1_))), .val (.ref t2), .val (.int (0 : Int32)), .unset, .unset] [])) _
        refine XS.aload X232.here hx rfl (hb hby at_388) rfl rfl ?_
        show Steps p.tables e below (T232.setTop (mkF m 390 #[.val (.int p1), .val (.int p2), .val (.int p3), .val (.int p4), .val (.int p5), .val (.int l1), .val (.int l2), .val (.int l3), .val (.int l4), .val (.int s1), .val (.int s2), .val (.int kd), .val (.int n0_), .val (.int n1_), .val (.int m0_), .val (.int m1_), .val (.int q0_), .val (.int q1_), .val (.int r0_), .val (.int r1_), .val (.ref x0), .val (.ref x1), .val (.ref x2), .val (.ref x3), .val (.ref t1), .val (.int (own_teq (own_cs l1 n0_ n1_) (own_cs l3 q0_ q1_) (own_cs l1 n0_ n1_) (own_cs l3 q0_ q1_))), .val (.ref t2), .val (.int (0 : Int32)), .unset, .unset] [(.ref t1)])) _
        refine XS.aload X232.here hx rfl (hb hby at_390) rfl rfl ?_
        show Steps p.tables e below (T232.setTop (mkF m 392 #[.val (.int p1), .val (.int p2), .val (.int p3), .val (.int p4), .val (.int p5), .val (.int l1), .val (.int l2), .val (.int l3), .val (.int l4), .val (.int s1), .val (.int s2), .val (.int kd), .val (.int n0_), .val (.int n1_), .val (.int m0_), .val (.int m1_), .val (.int q0_), .val (.int q1_), .val (.int r0_), .val (.int r1_), .val (.ref x0), .val (.ref x1), .val (.ref x2), .val (.ref x3), .val (.ref t1), .val (.int (own_teq (own_cs l1 n0_ n1_) (own_cs l3 q0_ q1_) (own_cs l1 n0_ n1_) (own_cs l3 q0_ q1_))), .val (.ref t2), .val (.int (0 : Int32)), .unset, .unset] [(.ref t2), (.ref t1)])) _
        refine st242.trans ?_
        show Steps p.tables e below (T242.setTop (mkF m 395 #[.val (.int p1), .val (.int p2), .val (.int p3), .val (.int p4), .val (.int p5), .val (.int l1), .val (.int l2), .val (.int l3), .val (.int l4), .val (.int s1), .val (.int s2), .val (.int kd), .val (.int n0_), .val (.int n1_), .val (.int m0_), .val (.int m1_), .val (.int q0_), .val (.int q1_), .val (.int r0_), .val (.int r1_), .val (.ref x0), .val (.ref x1), .val (.ref x2), .val (.ref x3), .val (.ref t1), .val (.int (own_teq (own_cs l1 n0_ n1_) (own_cs l3 q0_ q1_) (own_cs l1 n0_ n1_) (own_cs l3 q0_ q1_))), .val (.ref t2), .val (.int (0 : Int32)), .unset, .unset] [(.int (own_teq (own_cs l1 n0_ n1_) (own_cs l3 q0_ q1_) (own_cs l2 m0_ m1_) (own_cs l4 r0_ r1_)))])) _
        refine XS.istore X242.here hx rfl (hb hby at_395) rfl (l' := #[.val (.int p1), .val (.int p2), .val (.int p3), .val (.int p4), .val (.int p5), .val (.int l1), .val (.int l2), .val (.int l3), .val (.int l4), .val (.int s1), .val (.int s2), .val (.int kd), .val (.int n0_), .val (.int n1_), .val (.int m0_), .val (.int m1_), .val (.int q0_), .val (.int q1_), .val (.int r0_), .val (.int r1_), .val (.ref x0), .val (.ref x1), .val (.ref x2), .val (.ref x3), .val (.ref t1), .val (.int (own_teq (own_cs l1 n0_ n1_) (own_cs l3 q0_ q1_) (own_cs l1 n0_ n1_) (own_cs l3 q0_ q1_))), .val (.ref t2), .val (.int (0 : Int32)), .val (.int (own_teq (own_cs l1 n0_ n1_) (own_cs l3 q0_ q1_) (own_cs l2 m0_ m1_) (own_cs l4 r0_ r1_))), .unset]) rfl ?_
        show Steps p.tables e below (T242.setTop (mkF m 397 #[.val (.int p1), .val (.int p2), .val (.int p3), .val (.int p4), .val (.int p5), .val (.int l1), .val (.int l2), .val (.int l3), .val (.int l4), .val (.int s1), .val (.int s2), .val (.int kd), .val (.int n0_), .val (.int n1_), .val (.int m0_), .val (.int m1_), .val (.int q0_), .val (.int q1_), .val (.int r0_), .val (.int r1_), .val (.ref x0), .val (.ref x1), .val (.ref x2), .val (.ref x3), .val (.ref t1), .val (.int (own_teq (own_cs l1 n0_ n1_) (own_cs l3 q0_ q1_) (own_cs l1 n0_ n1_) (own_cs l3 q0_ q1_))), .val (.ref t2), .val (.int (0 : Int32)), .val (.int (own_teq (own_cs l1 n0_ n1_) (own_cs l3 q0_ q1_) (own_cs l2 m0_ m1_) (own_cs l4 r0_ r1_))), .unset] [])) _
        refine XS.iconst X242.here hx rfl (hb hby at_397) ?_
        show Steps p.tables e below (T242.setTop (mkF m 398 #[.val (.int p1), .val (.int p2), .val (.int p3), .val (.int p4), .val (.int p5), .val (.int l1), .val (.int l2), .val (.int l3), .val (.int l4), .val (.int s1), .val (.int s2), .val (.int kd), .val (.int n0_), .val (.int n1_), .val (.int m0_), .val (.int m1_), .val (.int q0_), .val (.int q1_), .val (.int r0_), .val (.int r1_), .val (.ref x0), .val (.ref x1), .val (.ref x2), .val (.ref x3), .val (.ref t1), .val (.int (own_teq (own_cs l1 n0_ n1_) (own_cs l3 q0_ q1_) (own_cs l1 n0_ n1_) (own_cs l3 q0_ q1_))), .val (.ref t2), .val (.int (0 : Int32)), .val (.int (own_teq (own_cs l1 n0_ n1_) (own_cs l3 q0_ q1_) (own_cs l2 m0_ m1_) (own_cs l4 r0_ r1_))), .unset] [(.int (1 : Int32))])) _
        refine XS.istore X242.here hx rfl (hb hby at_398) rfl (l' := #[.val (.int p1), .val (.int p2), .val (.int p3), .val (.int p4), .val (.int p5), .val (.int l1), .val (.int l2), .val (.int l3), .val (.int l4), .val (.int s1), .val (.int s2), .val (.int kd), .val (.int n0_), .val (.int n1_), .val (.int m0_), .val (.int m1_), .val (.int q0_), .val (.int q1_), .val (.int r0_), .val (.int r1_), .val (.ref x0), .val (.ref x1), .val (.ref x2), .val (.ref x3), .val (.ref t1), .val (.int (own_teq (own_cs l1 n0_ n1_) (own_cs l3 q0_ q1_) (own_cs l1 n0_ n1_) (own_cs l3 q0_ q1_))), .val (.ref t2), .val (.int (0 : Int32)), .val (.int (own_teq (own_cs l1 n0_ n1_) (own_cs l3 q0_ q1_) (own_cs l2 m0_ m1_) (own_cs l4 r0_ r1_))), .val (.int (1 : Int32))]) rfl ?_
        show Steps p.tables e below (T242.setTop (mkF m 400 #[.val (.int p1), .val (.int p2), .val (.int p3), .val (.int p4), .val (.int p5), .val (.int l1), .val (.int l2), .val (.int l3), .val (.int l4), .val (.int s1), .val (.int s2), .val (.int kd), .val (.int n0_), .val (.int n1_), .val (.int m0_), .val (.int m1_), .val (.int q0_), .val (.int q1_), .val (.int r0_), .val (.int r1_), .val (.ref x0), .val (.ref x1), .val (.ref x2), .val (.ref x3), .val (.ref t1), .val (.int (own_teq (own_cs l1 n0_ n1_) (own_cs l3 q0_ q1_) (own_cs l1 n0_ n1_) (own_cs l3 q0_ q1_))), .val (.ref t2), .val (.int (0 : Int32)), .val (.int (own_teq (own_cs l1 n0_ n1_) (own_cs l3 q0_ q1_) (own_cs l2 m0_ m1_) (own_cs l4 r0_ r1_))), .val (.int (1 : Int32))] [])) _
        refine XS.iload X242.here hx rfl (hb hby at_400) rfl ?_
        show Steps p.tables e below (T242.setTop (mkF m 402 #[.val (.int p1), .val (.int p2), .val (.int p3), .val (.int p4), .val (.int p5), .val (.int l1), .val (.int l2), .val (.int l3), .val (.int l4), .val (.int s1), .val (.int s2), .val (.int kd), .val (.int n0_), .val (.int n1_), .val (.int m0_), .val (.int m1_), .val (.int q0_), .val (.int q1_), .val (.int r0_), .val (.int r1_), .val (.ref x0), .val (.ref x1), .val (.ref x2), .val (.ref x3), .val (.ref t1), .val (.int (own_teq (own_cs l1 n0_ n1_) (own_cs l3 q0_ q1_) (own_cs l1 n0_ n1_) (own_cs l3 q0_ q1_))), .val (.ref t2), .val (.int (0 : Int32)), .val (.int (own_teq (own_cs l1 n0_ n1_) (own_cs l3 q0_ q1_) (own_cs l2 m0_ m1_) (own_cs l4 r0_ r1_))), .val (.int (1 : Int32))] [(.int kd)])) _
        refine XS.iconst X242.here hx rfl (hb hby at_402) ?_
        show Steps p.tables e below (T242.setTop (mkF m 403 #[.val (.int p1), .val (.int p2), .val (.int p3), .val (.int p4), .val (.int p5), .val (.int l1), .val (.int l2), .val (.int l3), .val (.int l4), .val (.int s1), .val (.int s2), .val (.int kd), .val (.int n0_), .val (.int n1_), .val (.int m0_), .val (.int m1_), .val (.int q0_), .val (.int q1_), .val (.int r0_), .val (.int r1_), .val (.ref x0), .val (.ref x1), .val (.ref x2), .val (.ref x3), .val (.ref t1), .val (.int (own_teq (own_cs l1 n0_ n1_) (own_cs l3 q0_ q1_) (own_cs l1 n0_ n1_) (own_cs l3 q0_ q1_))), .val (.ref t2), .val (.int (0 : Int32)), .val (.int (own_teq (own_cs l1 n0_ n1_) (own_cs l3 q0_ q1_) (own_cs l2 m0_ m1_) (own_cs l4 r0_ r1_))), .val (.int (1 : Int32))] [(.int (2 : Int32)), (.int kd)])) _
        refine XS.icmpNo X242.here hx rfl (hb hby at_403) rfl (tlt (by rw [q]; decide)).2.1 ?_
        show Steps p.tables e below (T242.setTop (mkF m 406 #[.val (.int p1), .val (.int p2), .val (.int p3), .val (.int p4), .val (.int p5), .val (.int l1), .val (.int l2), .val (.int l3), .val (.int l4), .val (.int s1), .val (.int s2), .val (.int kd), .val (.int n0_), .val (.int n1_), .val (.int m0_), .val (.int m1_), .val (.int q0_), .val (.int q1_), .val (.int r0_), .val (.int r1_), .val (.ref x0), .val (.ref x1), .val (.ref x2), .val (.ref x3), .val (.ref t1), .val (.int (own_teq (own_cs l1 n0_ n1_) (own_cs l3 q0_ q1_) (own_cs l1 n0_ n1_) (own_cs l3 q0_ q1_))), .val (.ref t2), .val (.int (0 : Int32)), .val (.int (own_teq (own_cs l1 n0_ n1_) (own_cs l3 q0_ q1_) (own_cs l2 m0_ m1_) (own_cs l4 r0_ r1_))), .val (.int (1 : Int32))] [])) _
        refine XS.aload X242.here hx rfl (hb hby at_406) rfl rfl ?_
        show Steps p.tables e below (T242.setTop (mkF m 408 #[.val (.int p1), .val (.int p2), .val (.int p3), .val (.int p4), .val (.int p5), .val (.int l1), .val (.int l2), .val (.int l3), .val (.int l4), .val (.int s1), .val (.int s2), .val (.int kd), .val (.int n0_), .val (.int n1_), .val (.int m0_), .val (.int m1_), .val (.int q0_), .val (.int q1_), .val (.int r0_), .val (.int r1_), .val (.ref x0), .val (.ref x1), .val (.ref x2), .val (.ref x3), .val (.ref t1), .val (.int (own_teq (own_cs l1 n0_ n1_) (own_cs l3 q0_ q1_) (own_cs l1 n0_ n1_) (own_cs l3 q0_ q1_))), .val (.ref t2), .val (.int (0 : Int32)), .val (.int (own_teq (own_cs l1 n0_ n1_) (own_cs l3 q0_ q1_) (own_cs l2 m0_ m1_) (own_cs l4 r0_ r1_))), .val (.int (1 : Int32))] [(.ref t2)])) _
        refine XS.aload X242.here hx rfl (hb hby at_408) rfl rfl ?_
        show Steps p.tables e below (T242.setTop (mkF m 410 #[.val (.int p1), .val (.int p2), .val (.int p3), .val (.int p4), .val (.int p5), .val (.int l1), .val (.int l2), .val (.int l3), .val (.int l4), .val (.int s1), .val (.int s2), .val (.int kd), .val (.int n0_), .val (.int n1_), .val (.int m0_), .val (.int m1_), .val (.int q0_), .val (.int q1_), .val (.int r0_), .val (.int r1_), .val (.ref x0), .val (.ref x1), .val (.ref x2), .val (.ref x3), .val (.ref t1), .val (.int (own_teq (own_cs l1 n0_ n1_) (own_cs l3 q0_ q1_) (own_cs l1 n0_ n1_) (own_cs l3 q0_ q1_))), .val (.ref t2), .val (.int (0 : Int32)), .val (.int (own_teq (own_cs l1 n0_ n1_) (own_cs l3 q0_ q1_) (own_cs l2 m0_ m1_) (own_cs l4 r0_ r1_))), .val (.int (1 : Int32))] [(.ref t1), (.ref t2)])) _
        refine st243.trans ?_
        show Steps p.tables e below (T243.setTop (mkF m 413 #[.val (.int p1), .val (.int p2), .val (.int p3), .val (.int p4), .val (.int p5), .val (.int l1), .val (.int l2), .val (.int l3), .val (.int l4), .val (.int s1), .val (.int s2), .val (.int kd), .val (.int n0_), .val (.int n1_), .val (.int m0_), .val (.int m1_), .val (.int q0_), .val (.int q1_), .val (.int r0_), .val (.int r1_), .val (.ref x0), .val (.ref x1), .val (.ref x2), .val (.ref x3), .val (.ref t1), .val (.int (own_teq (own_cs l1 n0_ n1_) (own_cs l3 q0_ q1_) (own_cs l1 n0_ n1_) (own_cs l3 q0_ q1_))), .val (.ref t2), .val (.int (0 : Int32)), .val (.int (own_teq (own_cs l1 n0_ n1_) (own_cs l3 q0_ q1_) (own_cs l2 m0_ m1_) (own_cs l4 r0_ r1_))), .val (.int (1 : Int32))] [(.int (own_teq (own_cs l2 m0_ m1_) (own_cs l4 r0_ r1_) (own_cs l1 n0_ n1_) (own_cs l3 q0_ q1_)))])) _
        refine XS.iload X243.here hx rfl (hb hby at_413) rfl ?_
        show Steps p.tables e below (T243.setTop (mkF m 415 #[.val (.int p1), .val (.int p2), .val (.int p3), .val (.int p4), .val (.int p5), .val (.int l1), .val (.int l2), .val (.int l3), .val (.int l4), .val (.int s1), .val (.int s2), .val (.int kd), .val (.int n0_), .val (.int n1_), .val (.int m0_), .val (.int m1_), .val (.int q0_), .val (.int q1_), .val (.int r0_), .val (.int r1_), .val (.ref x0), .val (.ref x1), .val (.ref x2), .val (.ref x3), .val (.ref t1), .val (.int (own_teq (own_cs l1 n0_ n1_) (own_cs l3 q0_ q1_) (own_cs l1 n0_ n1_) (own_cs l3 q0_ q1_))), .val (.ref t2), .val (.int (0 : Int32)), .val (.int (own_teq (own_cs l1 n0_ n1_) (own_cs l3 q0_ q1_) (own_cs l2 m0_ m1_) (own_cs l4 r0_ r1_))), .val (.int (1 : Int32))] [(.int (own_teq (own_cs l1 n0_ n1_) (own_cs l3 q0_ q1_) (own_cs l2 m0_ m1_) (own_cs l4 r0_ r1_))), (.int (own_teq (own_cs l2 m0_ m1_) (own_cs l4 r0_ r1_) (own_cs l1 n0_ n1_) (own_cs l3 q0_ q1_)))])) _
        refine XS.icmpNo X243.here hx rfl (hb hby at_415) rfl (teq (own_teqc _ _ _ _)).2 ?_
        show Steps p.tables e below (T243.setTop (mkF m 418 #[.val (.int p1), .val (.int p2), .val (.int p3), .val (.int p4), .val (.int p5), .val (.int l1), .val (.int l2), .val (.int l3), .val (.int l4), .val (.int s1), .val (.int s2), .val (.int kd), .val (.int n0_), .val (.int n1_), .val (.int m0_), .val (.int m1_), .val (.int q0_), .val (.int q1_), .val (.int r0_), .val (.int r1_), .val (.ref x0), .val (.ref x1), .val (.ref x2), .val (.ref x3), .val (.ref t1), .val (.int (own_teq (own_cs l1 n0_ n1_) (own_cs l3 q0_ q1_) (own_cs l1 n0_ n1_) (own_cs l3 q0_ q1_))), .val (.ref t2), .val (.int (0 : Int32)), .val (.int (own_teq (own_cs l1 n0_ n1_) (own_cs l3 q0_ q1_) (own_cs l2 m0_ m1_) (own_cs l4 r0_ r1_))), .val (.int (1 : Int32))] [])) _
        refine XS.iconst X243.here hx rfl (hb hby at_418) ?_
        show Steps p.tables e below (T243.setTop (mkF m 419 #[.val (.int p1), .val (.int p2), .val (.int p3), .val (.int p4), .val (.int p5), .val (.int l1), .val (.int l2), .val (.int l3), .val (.int l4), .val (.int s1), .val (.int s2), .val (.int kd), .val (.int n0_), .val (.int n1_), .val (.int m0_), .val (.int m1_), .val (.int q0_), .val (.int q1_), .val (.int r0_), .val (.int r1_), .val (.ref x0), .val (.ref x1), .val (.ref x2), .val (.ref x3), .val (.ref t1), .val (.int (own_teq (own_cs l1 n0_ n1_) (own_cs l3 q0_ q1_) (own_cs l1 n0_ n1_) (own_cs l3 q0_ q1_))), .val (.ref t2), .val (.int (0 : Int32)), .val (.int (own_teq (own_cs l1 n0_ n1_) (own_cs l3 q0_ q1_) (own_cs l2 m0_ m1_) (own_cs l4 r0_ r1_))), .val (.int (1 : Int32))] [(.int (1 : Int32))])) _
        refine XS.goto X243.here hx rfl (pc0 := 419) (pc' := 423) rfl (hb hby at_419) (by decide) (by decide) ?_
        show Steps p.tables e below (T243.setTop (mkF m 423 #[.val (.int p1), .val (.int p2), .val (.int p3), .val (.int p4), .val (.int p5), .val (.int l1), .val (.int l2), .val (.int l3), .val (.int l4), .val (.int s1), .val (.int s2), .val (.int kd), .val (.int n0_), .val (.int n1_), .val (.int m0_), .val (.int m1_), .val (.int q0_), .val (.int q1_), .val (.int r0_), .val (.int r1_), .val (.ref x0), .val (.ref x1), .val (.ref x2), .val (.ref x3), .val (.ref t1), .val (.int (own_teq (own_cs l1 n0_ n1_) (own_cs l3 q0_ q1_) (own_cs l1 n0_ n1_) (own_cs l3 q0_ q1_))), .val (.ref t2), .val (.int (0 : Int32)), .val (.int (own_teq (own_cs l1 n0_ n1_) (own_cs l3 q0_ q1_) (own_cs l2 m0_ m1_) (own_cs l4 r0_ r1_))), .val (.int (1 : Int32))] [(.int (1 : Int32))])) _
        refine XS.istore X243.here hx rfl (hb hby at_423) rfl (l' := #[.val (.int p1), .val (.int p2), .val (.int p3), .val (.int p4), .val (.int p5), .val (.int l1), .val (.int l2), .val (.int l3), .val (.int l4), .val (.int s1), .val (.int s2), .val (.int kd), .val (.int n0_), .val (.int n1_), .val (.int m0_), .val (.int m1_), .val (.int q0_), .val (.int q1_), .val (.int r0_), .val (.int r1_), .val (.ref x0), .val (.ref x1), .val (.ref x2), .val (.ref x3), .val (.ref t1), .val (.int (own_teq (own_cs l1 n0_ n1_) (own_cs l3 q0_ q1_) (own_cs l1 n0_ n1_) (own_cs l3 q0_ q1_))), .val (.ref t2), .val (.int (0 : Int32)), .val (.int (own_teq (own_cs l1 n0_ n1_) (own_cs l3 q0_ q1_) (own_cs l2 m0_ m1_) (own_cs l4 r0_ r1_))), .val (.int (1 : Int32))]) rfl ?_
        show Steps p.tables e below (T243.setTop (mkF m 425 #[.val (.int p1), .val (.int p2), .val (.int p3), .val (.int p4), .val (.int p5), .val (.int l1), .val (.int l2), .val (.int l3), .val (.int l4), .val (.int s1), .val (.int s2), .val (.int kd), .val (.int n0_), .val (.int n1_), .val (.int m0_), .val (.int m1_), .val (.int q0_), .val (.int q1_), .val (.int r0_), .val (.int r1_), .val (.ref x0), .val (.ref x1), .val (.ref x2), .val (.ref x3), .val (.ref t1), .val (.int (own_teq (own_cs l1 n0_ n1_) (own_cs l3 q0_ q1_) (own_cs l1 n0_ n1_) (own_cs l3 q0_ q1_))), .val (.ref t2), .val (.int (0 : Int32)), .val (.int (own_teq (own_cs l1 n0_ n1_) (own_cs l3 q0_ q1_) (own_cs l2 m0_ m1_) (own_cs l4 r0_ r1_))), .val (.int (1 : Int32))] [])) _
        refine XS.iload X243.here hx rfl (hb hby at_425) rfl ?_
        show Steps p.tables e below (T243.setTop (mkF m 427 #[.val (.int p1), .val (.int p2), .val (.int p3), .val (.int p4), .val (.int p5), .val (.int l1), .val (.int l2), .val (.int l3), .val (.int l4), .val (.int s1), .val (.int s2), .val (.int kd), .val (.int n0_), .val (.int n1_), .val (.int m0_), .val (.int m1_), .val (.int q0_), .val (.int q1_), .val (.int r0_), .val (.int r1_), .val (.ref x0), .val (.ref x1), .val (.ref x2), .val (.ref x3), .val (.ref t1), .val (.int (own_teq (own_cs l1 n0_ n1_) (own_cs l3 q0_ q1_) (own_cs l1 n0_ n1_) (own_cs l3 q0_ q1_))), .val (.ref t2), .val (.int (0 : Int32)), .val (.int (own_teq (own_cs l1 n0_ n1_) (own_cs l3 q0_ q1_) (own_cs l2 m0_ m1_) (own_cs l4 r0_ r1_))), .val (.int (1 : Int32))] [(.int (own_teq (own_cs l1 n0_ n1_) (own_cs l3 q0_ q1_) (own_cs l1 n0_ n1_) (own_cs l3 q0_ q1_)))])) _
        refine XS.ifNo X243.here hx rfl (hb hby at_427) rfl ((if0 _ _).trans (feq (by rw [own_teqs]; decide)).1) ?_
        show Steps p.tables e below (T243.setTop (mkF m 430 #[.val (.int p1), .val (.int p2), .val (.int p3), .val (.int p4), .val (.int p5), .val (.int l1), .val (.int l2), .val (.int l3), .val (.int l4), .val (.int s1), .val (.int s2), .val (.int kd), .val (.int n0_), .val (.int n1_), .val (.int m0_), .val (.int m1_), .val (.int q0_), .val (.int q1_), .val (.int r0_), .val (.int r1_), .val (.ref x0), .val (.ref x1), .val (.ref x2), .val (.ref x3), .val (.ref t1), .val (.int (own_teq (own_cs l1 n0_ n1_) (own_cs l3 q0_ q1_) (own_cs l1 n0_ n1_) (own_cs l3 q0_ q1_))), .val (.ref t2), .val (.int (0 : Int32)), .val (.int (own_teq (own_cs l1 n0_ n1_) (own_cs l3 q0_ q1_) (own_cs l2 m0_ m1_) (own_cs l4 r0_ r1_))), .val (.int (1 : Int32))] [])) _
        refine XS.iload X243.here hx rfl (hb hby at_430) rfl ?_
        show Steps p.tables e below (T243.setTop (mkF m 432 #[.val (.int p1), .val (.int p2), .val (.int p3), .val (.int p4), .val (.int p5), .val (.int l1), .val (.int l2), .val (.int l3), .val (.int l4), .val (.int s1), .val (.int s2), .val (.int kd), .val (.int n0_), .val (.int n1_), .val (.int m0_), .val (.int m1_), .val (.int q0_), .val (.int q1_), .val (.int r0_), .val (.int r1_), .val (.ref x0), .val (.ref x1), .val (.ref x2), .val (.ref x3), .val (.ref t1), .val (.int (own_teq (own_cs l1 n0_ n1_) (own_cs l3 q0_ q1_) (own_cs l1 n0_ n1_) (own_cs l3 q0_ q1_))), .val (.ref t2), .val (.int (0 : Int32)), .val (.int (own_teq (own_cs l1 n0_ n1_) (own_cs l3 q0_ q1_) (own_cs l2 m0_ m1_) (own_cs l4 r0_ r1_))), .val (.int (1 : Int32))] [(.int (own_teq (own_cs l1 n0_ n1_) (own_cs l3 q0_ q1_) (own_cs l2 m0_ m1_) (own_cs l4 r0_ r1_)))])) _
        refine XS.iload X243.here hx rfl (hb hby at_432) rfl ?_
        show Steps p.tables e below (T243.setTop (mkF m 434 #[.val (.int p1), .val (.int p2), .val (.int p3), .val (.int p4), .val (.int p5), .val (.int l1), .val (.int l2), .val (.int l3), .val (.int l4), .val (.int s1), .val (.int s2), .val (.int kd), .val (.int n0_), .val (.int n1_), .val (.int m0_), .val (.int m1_), .val (.int q0_), .val (.int q1_), .val (.int r0_), .val (.int r1_), .val (.ref x0), .val (.ref x1), .val (.ref x2), .val (.ref x3), .val (.ref t1), .val (.int (own_teq (own_cs l1 n0_ n1_) (own_cs l3 q0_ q1_) (own_cs l1 n0_ n1_) (own_cs l3 q0_ q1_))), .val (.ref t2), .val (.int (0 : Int32)), .val (.int (own_teq (own_cs l1 n0_ n1_) (own_cs l3 q0_ q1_) (own_cs l2 m0_ m1_) (own_cs l4 r0_ r1_))), .val (.int (1 : Int32))] [(.int (0 : Int32)), (.int (own_teq (own_cs l1 n0_ n1_) (own_cs l3 q0_ q1_) (own_cs l2 m0_ m1_) (own_cs l4 r0_ r1_)))])) _
        refine XS.icmpNo X243.here hx rfl (hb hby at_434) rfl (teq (by rw [own_teq, if_neg hA])).2 ?_
        show Steps p.tables e below (T243.setTop (mkF m 437 #[.val (.int p1), .val (.int p2), .val (.int p3), .val (.int p4), .val (.int p5), .val (.int l1), .val (.int l2), .val (.int l3), .val (.int l4), .val (.int s1), .val (.int s2), .val (.int kd), .val (.int n0_), .val (.int n1_), .val (.int m0_), .val (.int m1_), .val (.int q0_), .val (.int q1_), .val (.int r0_), .val (.int r1_), .val (.ref x0), .val (.ref x1), .val (.ref x2), .val (.ref x3), .val (.ref t1), .val (.int (own_teq (own_cs l1 n0_ n1_) (own_cs l3 q0_ q1_) (own_cs l1 n0_ n1_) (own_cs l3 q0_ q1_))), .val (.ref t2), .val (.int (0 : Int32)), .val (.int (own_teq (own_cs l1 n0_ n1_) (own_cs l3 q0_ q1_) (own_cs l2 m0_ m1_) (own_cs l4 r0_ r1_))), .val (.int (1 : Int32))] [])) _
        refine XS.iload X243.here hx rfl (hb hby at_437) rfl ?_
        show Steps p.tables e below (T243.setTop (mkF m 439 #[.val (.int p1), .val (.int p2), .val (.int p3), .val (.int p4), .val (.int p5), .val (.int l1), .val (.int l2), .val (.int l3), .val (.int l4), .val (.int s1), .val (.int s2), .val (.int kd), .val (.int n0_), .val (.int n1_), .val (.int m0_), .val (.int m1_), .val (.int q0_), .val (.int q1_), .val (.int r0_), .val (.int r1_), .val (.ref x0), .val (.ref x1), .val (.ref x2), .val (.ref x3), .val (.ref t1), .val (.int (own_teq (own_cs l1 n0_ n1_) (own_cs l3 q0_ q1_) (own_cs l1 n0_ n1_) (own_cs l3 q0_ q1_))), .val (.ref t2), .val (.int (0 : Int32)), .val (.int (own_teq (own_cs l1 n0_ n1_) (own_cs l3 q0_ q1_) (own_cs l2 m0_ m1_) (own_cs l4 r0_ r1_))), .val (.int (1 : Int32))] [(.int (1 : Int32))])) _
        refine XS.ifNo X243.here hx rfl (hb hby at_439) rfl ((if0 _ _).trans (feq (by decide : ¬ (1 : Int32) = 0)).1) ?_
        show Steps p.tables e below (T243.setTop (mkF m 442 #[.val (.int p1), .val (.int p2), .val (.int p3), .val (.int p4), .val (.int p5), .val (.int l1), .val (.int l2), .val (.int l3), .val (.int l4), .val (.int s1), .val (.int s2), .val (.int kd), .val (.int n0_), .val (.int n1_), .val (.int m0_), .val (.int m1_), .val (.int q0_), .val (.int q1_), .val (.int r0_), .val (.int r1_), .val (.ref x0), .val (.ref x1), .val (.ref x2), .val (.ref x3), .val (.ref t1), .val (.int (own_teq (own_cs l1 n0_ n1_) (own_cs l3 q0_ q1_) (own_cs l1 n0_ n1_) (own_cs l3 q0_ q1_))), .val (.ref t2), .val (.int (0 : Int32)), .val (.int (own_teq (own_cs l1 n0_ n1_) (own_cs l3 q0_ q1_) (own_cs l2 m0_ m1_) (own_cs l4 r0_ r1_))), .val (.int (1 : Int32))] [])) _
        refine XS.iconst X243.here hx rfl (hb hby at_442) ?_
        show Steps p.tables e below (T243.setTop (mkF m 443 #[.val (.int p1), .val (.int p2), .val (.int p3), .val (.int p4), .val (.int p5), .val (.int l1), .val (.int l2), .val (.int l3), .val (.int l4), .val (.int s1), .val (.int s2), .val (.int kd), .val (.int n0_), .val (.int n1_), .val (.int m0_), .val (.int m1_), .val (.int q0_), .val (.int q1_), .val (.int r0_), .val (.int r1_), .val (.ref x0), .val (.ref x1), .val (.ref x2), .val (.ref x3), .val (.ref t1), .val (.int (own_teq (own_cs l1 n0_ n1_) (own_cs l3 q0_ q1_) (own_cs l1 n0_ n1_) (own_cs l3 q0_ q1_))), .val (.ref t2), .val (.int (0 : Int32)), .val (.int (own_teq (own_cs l1 n0_ n1_) (own_cs l3 q0_ q1_) (own_cs l2 m0_ m1_) (own_cs l4 r0_ r1_))), .val (.int (1 : Int32))] [(.int (1 : Int32))])) _
        refine XS.goto X243.here hx rfl (pc0 := 443) (pc' := 447) rfl (hb hby at_443) (by decide) (by decide) ?_
        exact k_)
      obtain ⟨fs, hr, hrun, hended, hWr, hW1, hW2, hsame⟩ := Jvm.Stand.leaveW (s := s) X243 hS220' (by rw [e243]; exact (Nat.le_refl _)) (v := some (.int (1 : Int32))) (fun h => by rw [Bd.returns] at h; cases h)
      refine ⟨_, _, pre244 _ ?_, hrun, hended, _, _, rfl, ?_, hWr, hW1, hW2, hsame.mono (by decide) (by decide)⟩
      · show Steps p.tables e below (T243.setTop (mkF m 447 #[.val (.int p1), .val (.int p2), .val (.int p3), .val (.int p4), .val (.int p5), .val (.int l1), .val (.int l2), .val (.int l3), .val (.int l4), .val (.int s1), .val (.int s2), .val (.int kd), .val (.int n0_), .val (.int n1_), .val (.int m0_), .val (.int m1_), .val (.int q0_), .val (.int q1_), .val (.int r0_), .val (.int r1_), .val (.ref x0), .val (.ref x1), .val (.ref x2), .val (.ref x3), .val (.ref t1), .val (.int (own_teq (own_cs l1 n0_ n1_) (own_cs l3 q0_ q1_) (own_cs l1 n0_ n1_) (own_cs l3 q0_ q1_))), .val (.ref t2), .val (.int (0 : Int32)), .val (.int (own_teq (own_cs l1 n0_ n1_) (own_cs l3 q0_ q1_) (own_cs l2 m0_ m1_) (own_cs l4 r0_ r1_))), .val (.int (1 : Int32))] [(.int (1 : Int32))])) _
        exact retN X243 hx (t := .boolean) Bd.returns (by simp) (hb hby at_447) hr
      · show Qrm0 Z p1 p2 p3 p4 p5 zc h0 n0 _ T243.heap _
        rw [e243]
        exact ⟨rfl, N243⟩
  · skip
    obtain ⟨cq245, kq245, q245a, q245b, q245c⟩ := isOf hZ170 e178 E170
    obtain ⟨_, _, ⟨T245, L245, k245, n245⟩, -, X245, ⟨Lc245, hQ245, l245, y245, z245⟩, st245⟩ := X178.virtualBack hx (y := (⟨"com/example/cranfield/cranfield/model/Topic", "equals", "(Ljava/lang/Object;)Z"⟩ : MethodName)) (z := (⟨"com/example/cranfield/cranfield/model/Topic", "equals", "(Ljava/lang/Object;)Z"⟩ : MethodName)) hown170 (mvT hZ170 (hw _ (List.mem_of_getElem? (i := 44) rfl))) (mvT hZ170 (hw _ (List.mem_of_getElem? (i := 45) rfl))) (notFace_of_selects (args := #[]) (mvT hZ170 (hw _ (List.mem_of_getElem? (i := 47) rfl)))) (mvT hZ170 (hw _ (List.mem_of_getElem? (i := 47) rfl))) (mvT hZ170 (hw _ (List.mem_of_getElem? (i := 46) rfl))) (by decide) (backOf (W := 0) (rmE0 l Z a0 hw [] t1 T170.heap n0 Z176 ) hZ170 (hw _ (List.mem_of_getElem? (i := 48) rfl)) (hw _ (List.mem_of_getElem? (i := 28) rfl)) (by decide) (by decide)) q245a q245c (g := (mkF m 392 #[.val (.int p1), .val (.int p2), .val (.int p3), .val (.int p4), .val (.int p5), .val (.int l1), .val (.int l2), .val (.int l3), .val (.int l4), .val (.int s1), .val (.int s2), .val (.int kd), .val (.int n0_), .val (.int n1_), .val (.int m0_), .val (.int m1_), .val (.int q0_), .val (.int q1_), .val (.int r0_), .val (.int r1_), .val (.ref x0), .val (.ref x1), .val (.ref x2), .val (.ref x3), .val (.ref t1), .val (.int (own_teq (own_cs l1 n0_ n1_) (own_cs l3 q0_ q1_) (own_cs l1 n0_ n1_) (own_cs l3 q0_ q1_))), .val .null, .val (.int (0 : Int32)), .unset, .unset] [.null, (.ref t1)])) rfl (by rw [hml]; rfl) (Steps.refl _) (argsL := [.null]) (rest := []) (lenOf pd_3 rfl) rfl (by show 2 * 0 + _ ≤ _; exact Nat.le_of_eq rfl) (hb hby at_392) (fun _ _ => ⟨rfl, e178, (by decide : 29 + 0 ≤ _), (by decide : 102 + 0 ≤ _)⟩)
    dsimp only [Pt.U, Pt.locs, Pt.cells, Pt.slots] at X245 l245 y245 z245 st245 hQ245
    subst l245 y245 z245
    obtain ⟨rfl, N245q, e245⟩ := hQ245
    have N245 := Fr.app N178 N245q
    have pre246 : ∀ t_, Steps p.tables e below (T245.setTop (mkF m 447 #[.val (.int p1), .val (.int p2), .val (.int p3), .val (.int p4), .val (.int p5), .val (.int l1), .val (.int l2), .val (.int l3), .val (.int l4), .val (.int s1), .val (.int s2), .val (.int kd), .val (.int n0_), .val (.int n1_), .val (.int m0_), .val (.int m1_), .val (.int q0_), .val (.int q1_), .val (.int r0_), .val (.int r1_), .val (.ref x0), .val (.ref x1), .val (.ref x2), .val (.ref x3), .val (.ref t1), .val (.int (own_teq (own_cs l1 n0_ n1_) (own_cs l3 q0_ q1_) (own_cs l1 n0_ n1_) (own_cs l3 q0_ q1_))), .val .null, .val (.int (0 : Int32)), .val (.int (0 : Int32)), .val (.int (1 : Int32))] [(.int (1 : Int32))])) t_ → Steps p.tables e below (s₁.setTop (entryFrame m #[(.int p1), (.int p2), (.int p3), (.int p4), (.int p5)] maxLocals)) t_ := fun t_ k_ => pre180 _ (by
      show Steps p.tables e below (T178.setTop (mkF m 304 #[.val (.int p1), .val (.int p2), .val (.int p3), .val (.int p4), .val (.int p5), .val (.int l1), .val (.int l2), .val (.int l3), .val (.int l4), .val (.int s1), .val (.int s2), .val (.int kd), .val (.int n0_), .val (.int n1_), .val (.int m0_), .val (.int m1_), .val (.int q0_), .val (.int q1_), .val (.int r0_), .val (.int r1_), .val (.ref x0), .val (.ref x1), .val (.ref x2), .val (.ref x3), .val (.ref t1), .val (.int (own_teq (own_cs l1 n0_ n1_) (own_cs l3 q0_ q1_) (own_cs l1 n0_ n1_) (own_cs l3 q0_ q1_))), .unset, .unset, .unset, .unset] [(.int (2 : Int32)), (.int kd)])) _
      refine XS.icmpNo X178.here hx rfl (hb hby at_304) rfl (teq (by rw [q])).2 ?_
      show Steps p.tables e below (T178.setTop (mkF m 307 #[.val (.int p1), .val (.int p2), .val (.int p3), .val (.int p4), .val (.int p5), .val (.int l1), .val (.int l2), .val (.int l3), .val (.int l4), .val (.int s1), .val (.int s2), .val (.int kd), .val (.int n0_), .val (.int n1_), .val (.int m0_), .val (.int m1_), .val (.int q0_), .val (.int q1_), .val (.int r0_), .val (.int r1_), .val (.ref x0), .val (.ref x1), .val (.ref x2), .val (.ref x3), .val (.ref t1), .val (.int (own_teq (own_cs l1 n0_ n1_) (own_cs l3 q0_ q1_) (own_cs l1 n0_ n1_) (own_cs l3 q0_ q1_))), .unset, .unset, .unset, .unset] [])) _
      refine XS.aconstNull X178.here hx rfl (hb hby at_307) ?_
      show Steps p.tables e below (T178.setTop (mkF m 308 #[.val (.int p1), .val (.int p2), .val (.int p3), .val (.int p4), .val (.int p5), .val (.int l1), .val (.int l2), .val (.int l3), .val (.int l4), .val (.int s1), .val (.int s2), .val (.int kd), .val (.int n0_), .val (.int n1_), .val (.int m0_), .val (.int m1_), .val (.int q0_), .val (.int q1_), .val (.int r0_), .val (.int r1_), .val (.ref x0), .val (.ref x1), .val (.ref x2), .val (.ref x3), .val (.ref t1), .val (.int (own_teq (own_cs l1 n0_ n1_) (own_cs l3 q0_ q1_) (own_cs l1 n0_ n1_) (own_cs l3 q0_ q1_))), .unset, .unset, .unset, .unset] [.null])) _
      refine XS.astore X178.here hx rfl (hb hby at_308) rfl rfl (l' := #[.val (.int p1), .val (.int p2), .val (.int p3), .val (.int p4), .val (.int p5), .val (.int l1), .val (.int l2), .val (.int l3), .val (.int l4), .val (.int s1), .val (.int s2), .val (.int kd), .val (.int n0_), .val (.int n1_), .val (.int m0_), .val (.int m1_), .val (.int q0_), .val (.int q1_), .val (.int r0_), .val (.int r1_), .val (.ref x0), .val (.ref x1), .val (.ref x2), .val (.ref x3), .val (.ref t1), .val (.int (own_teq (own_cs l1 n0_ n1_) (own_cs l3 q0_ q1_) (own_cs l1 n0_ n1_) (own_cs l3 q0_ q1_))), .val .null, .unset, .unset, .unset]) rfl ?_
      show Steps p.tables e below (T178.setTop (mkF m 310 #[.val (.int p1), .val (.int p2), .val (.int p3), .val (.int p4), .val (.int p5), .val (.int l1), .val (.int l2), .val (.int l3), .val (.int l4), .val (.int s1), .val (.int s2), .val (.int kd), .val (.int n0_), .val (.int n1_), .val (.int m0_), .val (.int m1_), .val (.int q0_), .val (.int q1_), .val (.int r0_), .val (.int r1_), .val (.ref x0), .val (.ref x1), .val (.ref x2), .val (.ref x3), .val (.ref t1), .val (.int (own_teq (own_cs l1 n0_ n1_) (own_cs l3 q0_ q1_) (own_cs l1 n0_ n1_) (own_cs l3 q0_ q1_))), .val .null, .unset, .unset, .unset] [])) _
      refine XS.iconst X178.here hx rfl (hb hby at_310) ?_
      show Steps p.tables e below (T178.setTop (mkF m 311 #[.val (.int p1), .val (.int p2), .val (.int p3), .val (.int p4), .val (.int p5), .val (.int l1), .val (.int l2), .val (.int l3), .val (.int l4), .val (.int s1), .val (.int s2), .val (.int kd), .val (.int n0_), .val (.int n1_), .val (.int m0_), .val (.int m1_), .val (.int q0_), .val (.int q1_), .val (.int r0_), .val (.int r1_), .val (.ref x0), .val (.ref x1), .val (.ref x2), .val (.ref x3), .val (.ref t1), .val (.int (own_teq (own_cs l1 n0_ n1_) (own_cs l3 q0_ q1_) (own_cs l1 n0_ n1_) (own_cs l3 q0_ q1_))), .val .null, .unset, .unset, .unset] [(.int (0 : Int32))])) _
      refine XS.istore X178.here hx rfl (hb hby at_311) rfl (l' := #[.val (.int p1), .val (.int p2), .val (.int p3), .val (.int p4), .val (.int p5), .val (.int l1), .val (.int l2), .val (.int l3), .val (.int l4), .val (.int s1), .val (.int s2), .val (.int kd), .val (.int n0_), .val (.int n1_), .val (.int m0_), .val (.int m1_), .val (.int q0_), .val (.int q1_), .val (.int r0_), .val (.int r1_), .val (.ref x0), .val (.ref x1), .val (.ref x2), .val (.ref x3), .val (.ref t1), .val (.int (own_teq (own_cs l1 n0_ n1_) (own_cs l3 q0_ q1_) (own_cs l1 n0_ n1_) (own_cs l3 q0_ q1_))), .val .null, .val (.int (0 : Int32)), .unset, .unset]) rfl ?_
      show Steps p.tables e below (T178.setTop (mkF m 313 #[.val (.int p1), .val (.int p2), .val (.int p3), .val (.int p4), .val (.int p5), .val (.int l1), .val (.int l2), .val (.int l3), .val (.int l4), .val (.int s1), .val (.int s2), .val (.int kd), .val (.int n0_), .val (.int n1_), .val (.int m0_), .val (.int m1_), .val (.int q0_), .val (.int q1_), .val (.int r0_), .val (.int r1_), .val (.ref x0), .val (.ref x1), .val (.ref x2), .val (.ref x3), .val (.ref t1), .val (.int (own_teq (own_cs l1 n0_ n1_) (own_cs l3 q0_ q1_) (own_cs l1 n0_ n1_) (own_cs l3 q0_ q1_))), .val .null, .val (.int (0 : Int32)), .unset, .unset] [])) _
      refine XS.goto X178.here hx rfl (pc0 := 313) (pc' := 388) rfl (hb hby at_313) (by decide) (by decide) ?_
      show Steps p.tables e below (T178.setTop (mkF m 388 #[.val (.int p1), .val (.int p2), .val (.int p3), .val (.int p4), .val (.int p5), .val (.int l1), .val (.int l2), .val (.int l3), .val (.int l4), .val (.int s1), .val (.int s2), .val (.int kd), .val (.int n0_), .val (.int n1_), .val (.int m0_), .val (.int m1_), .val (.int q0_), .val (.int q1_), .val (.int r0_), .val (.int r1_), .val (.ref x0), .val (.ref x1), .val (.ref x2), .val (.ref x3), .val (.ref t1), .val (.int (own_teq (own_cs l1 n0_ n1_) (own_cs l3 q0_ q1_) (own_cs l1 n0_ n1_) (own_cs l3 q0_ q1_))), .val .null, .val (.int (0 : Int32)), .unset, .unset] [])) _
      refine XS.aload X178.here hx rfl (hb hby at_388) rfl rfl ?_
      show Steps p.tables e below (T178.setTop (mkF m 390 #[.val (.int p1), .val (.int p2), .val (.int p3), .val (.int p4), .val (.int p5), .val (.int l1), .val (.int l2), .val (.int l3), .val (.int l4), .val (.int s1), .val (.int s2), .val (.int kd), .val (.int n0_), .val (.int n1_), .val (.int m0_), .val (.int m1_), .val (.int q0_), .val (.int q1_), .val (.int r0_), .val (.int r1_), .val (.ref x0), .val (.ref x1), .val (.ref x2), .val (.ref x3), .val (.ref t1), .val (.int (own_teq (own_cs l1 n0_ n1_) (own_cs l3 q0_ q1_) (own_cs l1 n0_ n1_) (own_cs l3 q0_ q1_))), .val .null, .val (.int (0 : Int32)), .unset, .unset] [(.ref t1)])) _
      refine XS.aload X178.here hx rfl (hb hby at_390) rfl rfl ?_
      show Steps p.tables e below (T178.setTop (mkF m 392 #[.val (.int p1), .val (.int p2), .val (.int p3), .val (.int p4), .val (.int p5), .val (.int l1), .val (.int l2), .val (.int l3), .val (.int l4), .val (.int s1), .val (.int s2), .val (.int kd), .val (.int n0_), .val (.int n1_), .val (.int m0_), .val (.int m1_), .val (.int q0_), .val (.int q1_), .val (.int r0_), .val (.int r1_), .val (.ref x0), .val (.ref x1), .val (.ref x2), .val (.ref x3), .val (.ref t1), .val (.int (own_teq (own_cs l1 n0_ n1_) (own_cs l3 q0_ q1_) (own_cs l1 n0_ n1_) (own_cs l3 q0_ q1_))), .val .null, .val (.int (0 : Int32)), .unset, .unset] [.null, (.ref t1)])) _
      refine st245.trans ?_
      show Steps p.tables e below (T245.setTop (mkF m 395 #[.val (.int p1), .val (.int p2), .val (.int p3), .val (.int p4), .val (.int p5), .val (.int l1), .val (.int l2), .val (.int l3), .val (.int l4), .val (.int s1), .val (.int s2), .val (.int kd), .val (.int n0_), .val (.int n1_), .val (.int m0_), .val (.int m1_), .val (.int q0_), .val (.int q1_), .val (.int r0_), .val (.int r1_), .val (.ref x0), .val (.ref x1), .val (.ref x2), .val (.ref x3), .val (.ref t1), .val (.int (own_teq (own_cs l1 n0_ n1_) (own_cs l3 q0_ q1_) (own_cs l1 n0_ n1_) (own_cs l3 q0_ q1_))), .val .null, .val (.int (0 : Int32)), .unset, .unset] [(.int (0 : Int32))])) _
      refine XS.istore X245.here hx rfl (hb hby at_395) rfl (l' := #[.val (.int p1), .val (.int p2), .val (.int p3), .val (.int p4), .val (.int p5), .val (.int l1), .val (.int l2), .val (.int l3), .val (.int l4), .val (.int s1), .val (.int s2), .val (.int kd), .val (.int n0_), .val (.int n1_), .val (.int m0_), .val (.int m1_), .val (.int q0_), .val (.int q1_), .val (.int r0_), .val (.int r1_), .val (.ref x0), .val (.ref x1), .val (.ref x2), .val (.ref x3), .val (.ref t1), .val (.int (own_teq (own_cs l1 n0_ n1_) (own_cs l3 q0_ q1_) (own_cs l1 n0_ n1_) (own_cs l3 q0_ q1_))), .val .null, .val (.int (0 : Int32)), .val (.int (0 : Int32)), .unset]) rfl ?_
      show Steps p.tables e below (T245.setTop (mkF m 397 #[.val (.int p1), .val (.int p2), .val (.int p3), .val (.int p4), .val (.int p5), .val (.int l1), .val (.int l2), .val (.int l3), .val (.int l4), .val (.int s1), .val (.int s2), .val (.int kd), .val (.int n0_), .val (.int n1_), .val (.int m0_), .val (.int m1_), .val (.int q0_), .val (.int q1_), .val (.int r0_), .val (.int r1_), .val (.ref x0), .val (.ref x1), .val (.ref x2), .val (.ref x3), .val (.ref t1), .val (.int (own_teq (own_cs l1 n0_ n1_) (own_cs l3 q0_ q1_) (own_cs l1 n0_ n1_) (own_cs l3 q0_ q1_))), .val .null, .val (.int (0 : Int32)), .val (.int (0 : Int32)), .unset] [])) _
      refine XS.iconst X245.here hx rfl (hb hby at_397) ?_
      show Steps p.tables e below (T245.setTop (mkF m 398 #[.val (.int p1), .val (.int p2), .val (.int p3), .val (.int p4), .val (.int p5), .val (.int l1), .val (.int l2), .val (.int l3), .val (.int l4), .val (.int s1), .val (.int s2), .val (.int kd), .val (.int n0_), .val (.int n1_), .val (.int m0_), .val (.int m1_), .val (.int q0_), .val (.int q1_), .val (.int r0_), .val (.int r1_), .val (.ref x0), .val (.ref x1), .val (.ref x2), .val (.ref x3), .val (.ref t1), .val (.int (own_teq (own_cs l1 n0_ n1_) (own_cs l3 q0_ q1_) (own_cs l1 n0_ n1_) (own_cs l3 q0_ q1_))), .val .null, .val (.int (0 : Int32)), .val (.int (0 : Int32)), .unset] [(.int (1 : Int32))])) _
      refine XS.istore X245.here hx rfl (hb hby at_398) rfl (l' := #[.val (.int p1), .val (.int p2), .val (.int p3), .val (.int p4), .val (.int p5), .val (.int l1), .val (.int l2), .val (.int l3), .val (.int l4), .val (.int s1), .val (.int s2), .val (.int kd), .val (.int n0_), .val (.int n1_), .val (.int m0_), .val (.int m1_), .val (.int q0_), .val (.int q1_), .val (.int r0_), .val (.int r1_), .val (.ref x0), .val (.ref x1), .val (.ref x2), .val (.ref x3), .val (.ref t1), .val (.int (own_teq (own_cs l1 n0_ n1_) (own_cs l3 q0_ q1_) (own_cs l1 n0_ n1_) (own_cs l3 q0_ q1_))), .val .null, .val (.int (0 : Int32)), .val (.int (0 : Int32)), .val (.int (1 : Int32))]) rfl ?_
      show Steps p.tables e below (T245.setTop (mkF m 400 #[.val (.int p1), .val (.int p2), .val (.int p3), .val (.int p4), .val (.int p5), .val (.int l1), .val (.int l2), .val (.int l3), .val (.int l4), .val (.int s1), .val (.int s2), .val (.int kd), .val (.int n0_), .val (.int n1_), .val (.int m0_), .val (.int m1_), .val (.int q0_), .val (.int q1_), .val (.int r0_), .val (.int r1_), .val (.ref x0), .val (.ref x1), .val (.ref x2), .val (.ref x3), .val (.ref t1), .val (.int (own_teq (own_cs l1 n0_ n1_) (own_cs l3 q0_ q1_) (own_cs l1 n0_ n1_) (own_cs l3 q0_ q1_))), .val .null, .val (.int (0 : Int32)), .val (.int (0 : Int32)), .val (.int (1 : Int32))] [])) _
      refine XS.iload X245.here hx rfl (hb hby at_400) rfl ?_
      show Steps p.tables e below (T245.setTop (mkF m 402 #[.val (.int p1), .val (.int p2), .val (.int p3), .val (.int p4), .val (.int p5), .val (.int l1), .val (.int l2), .val (.int l3), .val (.int l4), .val (.int s1), .val (.int s2), .val (.int kd), .val (.int n0_), .val (.int n1_), .val (.int m0_), .val (.int m1_), .val (.int q0_), .val (.int q1_), .val (.int r0_), .val (.int r1_), .val (.ref x0), .val (.ref x1), .val (.ref x2), .val (.ref x3), .val (.ref t1), .val (.int (own_teq (own_cs l1 n0_ n1_) (own_cs l3 q0_ q1_) (own_cs l1 n0_ n1_) (own_cs l3 q0_ q1_))), .val .null, .val (.int (0 : Int32)), .val (.int (0 : Int32)), .val (.int (1 : Int32))] [(.int kd)])) _
      refine XS.iconst X245.here hx rfl (hb hby at_402) ?_
      show Steps p.tables e below (T245.setTop (mkF m 403 #[.val (.int p1), .val (.int p2), .val (.int p3), .val (.int p4), .val (.int p5), .val (.int l1), .val (.int l2), .val (.int l3), .val (.int l4), .val (.int s1), .val (.int s2), .val (.int kd), .val (.int n0_), .val (.int n1_), .val (.int m0_), .val (.int m1_), .val (.int q0_), .val (.int q1_), .val (.int r0_), .val (.int r1_), .val (.ref x0), .val (.ref x1), .val (.ref x2), .val (.ref x3), .val (.ref t1), .val (.int (own_teq (own_cs l1 n0_ n1_) (own_cs l3 q0_ q1_) (own_cs l1 n0_ n1_) (own_cs l3 q0_ q1_))), .val .null, .val (.int (0 : Int32)), .val (.int (0 : Int32)), .val (.int (1 : Int32))] [(.int (2 : Int32)), (.int kd)])) _
      refine XS.icmpYes X245.here hx rfl (pc0 := 403) (pc' := 425) rfl (hb hby at_403) rfl (flt (by rw [q]; decide)).2.1 (by decide) (by decide) ?_
      show Steps p.tables e below (T245.setTop (mkF m 425 #[.val (.int p1), .val (.int p2), .val (.int p3), .val (.int p4), .val (.int p5), .val (.int l1), .val (.int l2), .val (.int l3), .val (.int l4), .val (.int s1), .val (.int s2), .val (.int kd), .val (.int n0_), .val (.int n1_), .val (.int m0_), .val (.int m1_), .val (.int q0_), .val (.int q1_), .val (.int r0_), .val (.int r1_), .val (.ref x0), .val (.ref x1), .val (.ref x2), .val (.ref x3), .val (.ref t1), .val (.int (own_teq (own_cs l1 n0_ n1_) (own_cs l3 q0_ q1_) (own_cs l1 n0_ n1_) (own_cs l3 q0_ q1_))), .val .null, .val (.int (0 : Int32)), .val (.int (0 : Int32)), .val (.int (1 : Int32))] [])) _
      refine XS.iload X245.here hx rfl (hb hby at_425) rfl ?_
      show Steps p.tables e below (T245.setTop (mkF m 427 #[.val (.int p1), .val (.int p2), .val (.int p3), .val (.int p4), .val (.int p5), .val (.int l1), .val (.int l2), .val (.int l3), .val (.int l4), .val (.int s1), .val (.int s2), .val (.int kd), .val (.int n0_), .val (.int n1_), .val (.int m0_), .val (.int m1_), .val (.int q0_), .val (.int q1_), .val (.int r0_), .val (.int r1_), .val (.ref x0), .val (.ref x1), .val (.ref x2), .val (.ref x3), .val (.ref t1), .val (.int (own_teq (own_cs l1 n0_ n1_) (own_cs l3 q0_ q1_) (own_cs l1 n0_ n1_) (own_cs l3 q0_ q1_))), .val .null, .val (.int (0 : Int32)), .val (.int (0 : Int32)), .val (.int (1 : Int32))] [(.int (own_teq (own_cs l1 n0_ n1_) (own_cs l3 q0_ q1_) (own_cs l1 n0_ n1_) (own_cs l3 q0_ q1_)))])) _
      refine XS.ifNo X245.here hx rfl (hb hby at_427) rfl ((if0 _ _).trans (feq (by rw [own_teqs]; decide)).1) ?_
      show Steps p.tables e below (T245.setTop (mkF m 430 #[.val (.int p1), .val (.int p2), .val (.int p3), .val (.int p4), .val (.int p5), .val (.int l1), .val (.int l2), .val (.int l3), .val (.int l4), .val (.int s1), .val (.int s2), .val (.int kd), .val (.int n0_), .val (.int n1_), .val (.int m0_), .val (.int m1_), .val (.int q0_), .val (.int q1_), .val (.int r0_), .val (.int r1_), .val (.ref x0), .val (.ref x1), .val (.ref x2), .val (.ref x3), .val (.ref t1), .val (.int (own_teq (own_cs l1 n0_ n1_) (own_cs l3 q0_ q1_) (own_cs l1 n0_ n1_) (own_cs l3 q0_ q1_))), .val .null, .val (.int (0 : Int32)), .val (.int (0 : Int32)), .val (.int (1 : Int32))] [])) _
      refine XS.iload X245.here hx rfl (hb hby at_430) rfl ?_
      show Steps p.tables e below (T245.setTop (mkF m 432 #[.val (.int p1), .val (.int p2), .val (.int p3), .val (.int p4), .val (.int p5), .val (.int l1), .val (.int l2), .val (.int l3), .val (.int l4), .val (.int s1), .val (.int s2), .val (.int kd), .val (.int n0_), .val (.int n1_), .val (.int m0_), .val (.int m1_), .val (.int q0_), .val (.int q1_), .val (.int r0_), .val (.int r1_), .val (.ref x0), .val (.ref x1), .val (.ref x2), .val (.ref x3), .val (.ref t1), .val (.int (own_teq (own_cs l1 n0_ n1_) (own_cs l3 q0_ q1_) (own_cs l1 n0_ n1_) (own_cs l3 q0_ q1_))), .val .null, .val (.int (0 : Int32)), .val (.int (0 : Int32)), .val (.int (1 : Int32))] [(.int (0 : Int32))])) _
      refine XS.iload X245.here hx rfl (hb hby at_432) rfl ?_
      show Steps p.tables e below (T245.setTop (mkF m 434 #[.val (.int p1), .val (.int p2), .val (.int p3), .val (.int p4), .val (.int p5), .val (.int l1), .val (.int l2), .val (.int l3), .val (.int l4), .val (.int s1), .val (.int s2), .val (.int kd), .val (.int n0_), .val (.int n1_), .val (.int m0_), .val (.int m1_), .val (.int q0_), .val (.int q1_), .val (.int r0_), .val (.int r1_), .val (.ref x0), .val (.ref x1), .val (.ref x2), .val (.ref x3), .val (.ref t1), .val (.int (own_teq (own_cs l1 n0_ n1_) (own_cs l3 q0_ q1_) (own_cs l1 n0_ n1_) (own_cs l3 q0_ q1_))), .val .null, .val (.int (0 : Int32)), .val (.int (0 : Int32)), .val (.int (1 : Int32))] [(.int (0 : Int32)), (.int (0 : Int32))])) _
      refine XS.icmpNo X245.here hx rfl (hb hby at_434) rfl (teq (rfl : (0 : Int32) = 0)).2 ?_
      show Steps p.tables e below (T245.setTop (mkF m 437 #[.val (.int p1), .val (.int p2), .val (.int p3), .val (.int p4), .val (.int p5), .val (.int l1), .val (.int l2), .val (.int l3), .val (.int l4), .val (.int s1), .val (.int s2), .val (.int kd), .val (.int n0_), .val (.int n1_), .val (.int m0_), .val (.int m1_), .val (.int q0_), .val (.int q1_), .val (.int r0_), .val (.int r1_), .val (.ref x0), .val (.ref x1), .val (.ref x2), .val (.ref x3), .val (.ref t1), .val (.int (own_teq (own_cs l1 n0_ n1_) (own_cs l3 q0_ q1_) (own_cs l1 n0_ n1_) (own_cs l3 q0_ q1_))), .val .null, .val (.int (0 : Int32)), .val (.int (0 : Int32)), .val (.int (1 : Int32))] [])) _
      refine XS.iload X245.here hx rfl (hb hby at_437) rfl ?_
      show Steps p.tables e below (T245.setTop (mkF m 439 #[.val (.int p1), .val (.int p2), .val (.int p3), .val (.int p4), .val (.int p5), .val (.int l1), .val (.int l2), .val (.int l3), .val (.int l4), .val (.int s1), .val (.int s2), .val (.int kd), .val (.int n0_), .val (.int n1_), .val (.int m0_), .val (.int m1_), .val (.int q0_), .val (.int q1_), .val (.int r0_), .val (.int r1_), .val (.ref x0), .val (.ref x1), .val (.ref x2), .val (.ref x3), .val (.ref t1), .val (.int (own_teq (own_cs l1 n0_ n1_) (own_cs l3 q0_ q1_) (own_cs l1 n0_ n1_) (own_cs l3 q0_ q1_))), .val .null, .val (.int (0 : Int32)), .val (.int (0 : Int32)), .val (.int (1 : Int32))] [(.int (1 : Int32))])) _
      refine XS.ifNo X245.here hx rfl (hb hby at_439) rfl ((if0 _ _).trans (feq (by decide : ¬ (1 : Int32) = 0)).1) ?_
      show Steps p.tables e below (T245.setTop (mkF m 442 #[.val (.int p1), .val (.int p2), .val (.int p3), .val (.int p4), .val (.int p5), .val (.int l1), .val (.int l2), .val (.int l3), .val (.int l4), .val (.int s1), .val (.int s2), .val (.int kd), .val (.int n0_), .val (.int n1_), .val (.int m0_), .val (.int m1_), .val (.int q0_), .val (.int q1_), .val (.int r0_), .val (.int r1_), .val (.ref x0), .val (.ref x1), .val (.ref x2), .val (.ref x3), .val (.ref t1), .val (.int (own_teq (own_cs l1 n0_ n1_) (own_cs l3 q0_ q1_) (own_cs l1 n0_ n1_) (own_cs l3 q0_ q1_))), .val .null, .val (.int (0 : Int32)), .val (.int (0 : Int32)), .val (.int (1 : Int32))] [])) _
      refine XS.iconst X245.here hx rfl (hb hby at_442) ?_
      show Steps p.tables e below (T245.setTop (mkF m 443 #[.val (.int p1), .val (.int p2), .val (.int p3), .val (.int p4), .val (.int p5), .val (.int l1), .val (.int l2), .val (.int l3), .val (.int l4), .val (.int s1), .val (.int s2), .val (.int kd), .val (.int n0_), .val (.int n1_), .val (.int m0_), .val (.int m1_), .val (.int q0_), .val (.int q1_), .val (.int r0_), .val (.int r1_), .val (.ref x0), .val (.ref x1), .val (.ref x2), .val (.ref x3), .val (.ref t1), .val (.int (own_teq (own_cs l1 n0_ n1_) (own_cs l3 q0_ q1_) (own_cs l1 n0_ n1_) (own_cs l3 q0_ q1_))), .val .null, .val (.int (0 : Int32)), .val (.int (0 : Int32)), .val (.int (1 : Int32))] [(.int (1 : Int32))])) _
      refine XS.goto X245.here hx rfl (pc0 := 443) (pc' := 447) rfl (hb hby at_443) (by decide) (by decide) ?_
      exact k_)
    obtain ⟨fs, hr, hrun, hended, hWr, hW1, hW2, hsame⟩ := Jvm.Stand.leaveW (s := s) X245 hS170' (by rw [e245]; exact (Nat.le_refl _)) (v := some (.int (1 : Int32))) (fun h => by rw [Bd.returns] at h; cases h)
    refine ⟨_, _, pre246 _ ?_, hrun, hended, _, _, rfl, ?_, hWr, hW1, hW2, hsame.mono (by decide) (by decide)⟩
    · show Steps p.tables e below (T245.setTop (mkF m 447 #[.val (.int p1), .val (.int p2), .val (.int p3), .val (.int p4), .val (.int p5), .val (.int l1), .val (.int l2), .val (.int l3), .val (.int l4), .val (.int s1), .val (.int s2), .val (.int kd), .val (.int n0_), .val (.int n1_), .val (.int m0_), .val (.int m1_), .val (.int q0_), .val (.int q1_), .val (.int r0_), .val (.int r1_), .val (.ref x0), .val (.ref x1), .val (.ref x2), .val (.ref x3), .val (.ref t1), .val (.int (own_teq (own_cs l1 n0_ n1_) (own_cs l3 q0_ q1_) (own_cs l1 n0_ n1_) (own_cs l3 q0_ q1_))), .val .null, .val (.int (0 : Int32)), .val (.int (0 : Int32)), .val (.int (1 : Int32))] [(.int (1 : Int32))])) _
      exact retN X245 hx (t := .boolean) Bd.returns (by simp) (hb hby at_447) hr
    · show Qrm0 Z p1 p2 p3 p4 p5 zc h0 n0 _ T245.heap _
      rw [e245]
      exact ⟨rfl, N245⟩
  · skip
    obtain ⟨cq247, kq247, q247a, q247b, q247c⟩ := isOf hZ170 e178 E170
    obtain ⟨_, _, ⟨T247, L247, k247, n247⟩, -, X247, ⟨Lc247, hQ247, l247, y247, z247⟩, st247⟩ := X178.virtualBack hx (y := (⟨"com/example/cranfield/cranfield/model/Topic", "equals", "(Ljava/lang/Object;)Z"⟩ : MethodName)) (z := (⟨"com/example/cranfield/cranfield/model/Topic", "equals", "(Ljava/lang/Object;)Z"⟩ : MethodName)) hown170 (mvT hZ170 (hw _ (List.mem_of_getElem? (i := 44) rfl))) (mvT hZ170 (hw _ (List.mem_of_getElem? (i := 45) rfl))) (notFace_of_selects (args := #[]) (mvT hZ170 (hw _ (List.mem_of_getElem? (i := 47) rfl)))) (mvT hZ170 (hw _ (List.mem_of_getElem? (i := 47) rfl))) (mvT hZ170 (hw _ (List.mem_of_getElem? (i := 46) rfl))) (by decide) (backOf (W := 0) (rmE1 l Z a0 hw [] t1 x0 T170.heap n0 Z176 (own_Stre T_171)) hZ170 (hw _ (List.mem_of_getElem? (i := 48) rfl)) (hw _ (List.mem_of_getElem? (i := 28) rfl)) (by decide) (by decide)) q247a q247c (g := (mkF m 392 #[.val (.int p1), .val (.int p2), .val (.int p3), .val (.int p4), .val (.int p5), .val (.int l1), .val (.int l2), .val (.int l3), .val (.int l4), .val (.int s1), .val (.int s2), .val (.int kd), .val (.int n0_), .val (.int n1_), .val (.int m0_), .val (.int m1_), .val (.int q0_), .val (.int q1_), .val (.int r0_), .val (.int r1_), .val (.ref x0), .val (.ref x1), .val (.ref x2), .val (.ref x3), .val (.ref t1), .val (.int (own_teq (own_cs l1 n0_ n1_) (own_cs l3 q0_ q1_) (own_cs l1 n0_ n1_) (own_cs l3 q0_ q1_))), .val (.ref x0), .val (.int (0 : Int32)), .unset, .unset] [(.ref x0), (.ref t1)])) rfl (by rw [hml]; rfl) (Steps.refl _) (argsL := [(.ref x0)]) (rest := []) (lenOf pd_3 rfl) rfl (by show 2 * 0 + _ ≤ _; exact Nat.le_of_eq rfl) (hb hby at_392) (fun _ _ => ⟨rfl, e178, (by decide : 29 + 0 ≤ _), (by decide : 102 + 0 ≤ _)⟩)
    dsimp only [Pt.U, Pt.locs, Pt.cells, Pt.slots] at X247 l247 y247 z247 st247 hQ247
    subst l247 y247 z247
    obtain ⟨rfl, N247q, e247⟩ := hQ247
    have N247 := Fr.app N178 N247q
    have pre248 : ∀ t_, Steps p.tables e below (T247.setTop (mkF m 447 #[.val (.int p1), .val (.int p2), .val (.int p3), .val (.int p4), .val (.int p5), .val (.int l1), .val (.int l2), .val (.int l3), .val (.int l4), .val (.int s1), .val (.int s2), .val (.int kd), .val (.int n0_), .val (.int n1_), .val (.int m0_), .val (.int m1_), .val (.int q0_), .val (.int q1_), .val (.int r0_), .val (.int r1_), .val (.ref x0), .val (.ref x1), .val (.ref x2), .val (.ref x3), .val (.ref t1), .val (.int (own_teq (own_cs l1 n0_ n1_) (own_cs l3 q0_ q1_) (own_cs l1 n0_ n1_) (own_cs l3 q0_ q1_))), .val (.ref x0), .val (.int (0 : Int32)), .val (.int (0 : Int32)), .val (.int (1 : Int32))] [(.int (1 : Int32))])) t_ → Steps p.tables e below (s₁.setTop (entryFrame m #[(.int p1), (.int p2), (.int p3), (.int p4), (.int p5)] maxLocals)) t_ := fun t_ k_ => pre180 _ (by
      show Steps p.tables e below (T178.setTop (mkF m 304 #[.val (.int p1), .val (.int p2), .val (.int p3), .val (.int p4), .val (.int p5), .val (.int l1), .val (.int l2), .val (.int l3), .val (.int l4), .val (.int s1), .val (.int s2), .val (.int kd), .val (.int n0_), .val (.int n1_), .val (.int m0_), .val (.int m1_), .val (.int q0_), .val (.int q1_), .val (.int r0_), .val (.int r1_), .val (.ref x0), .val (.ref x1), .val (.ref x2), .val (.ref x3), .val (.ref t1), .val (.int (own_teq (own_cs l1 n0_ n1_) (own_cs l3 q0_ q1_) (own_cs l1 n0_ n1_) (own_cs l3 q0_ q1_))), .unset, .unset, .unset, .unset] [(.int (2 : Int32)), (.int kd)])) _
      refine XS.icmpYes X178.here hx rfl (pc0 := 304) (pc' := 316) rfl (hb hby at_304) rfl (feq (by rw [q]; decide)).2 (by decide) (by decide) ?_
      show Steps p.tables e below (T178.setTop (mkF m 316 #[.val (.int p1), .val (.int p2), .val (.int p3), .val (.int p4), .val (.int p5), .val (.int l1), .val (.int l2), .val (.int l3), .val (.int l4), .val (.int s1), .val (.int s2), .val (.int kd), .val (.int n0_), .val (.int n1_), .val (.int m0_), .val (.int m1_), .val (.int q0_), .val (.int q1_), .val (.int r0_), .val (.int r1_), .val (.ref x0), .val (.ref x1), .val (.ref x2), .val (.ref x3), .val (.ref t1), .val (.int (own_teq (own_cs l1 n0_ n1_) (own_cs l3 q0_ q1_) (own_cs l1 n0_ n1_) (own_cs l3 q0_ q1_))), .unset, .unset, .unset, .unset] [])) _
      refine XS.iload X178.here hx rfl (hb hby at_316) rfl ?_
      show Steps p.tables e below (T178.setTop (mkF m 318 #[.val (.int p1), .val (.int p2), .val (.int p3), .val (.int p4), .val (.int p5), .val (.int l1), .val (.int l2), .val (.int l3), .val (.int l4), .val (.int s1), .val (.int s2), .val (.int kd), .val (.int n0_), .val (.int n1_), .val (.int m0_), .val (.int m1_), .val (.int q0_), .val (.int q1_), .val (.int r0_), .val (.int r1_), .val (.ref x0), .val (.ref x1), .val (.ref x2), .val (.ref x3), .val (.ref t1), .val (.int (own_teq (own_cs l1 n0_ n1_) (own_cs l3 q0_ q1_) (own_cs l1 n0_ n1_) (own_cs l3 q0_ q1_))), .unset, .unset, .unset, .unset] [(.int kd)])) _
      refine XS.iconst X178.here hx rfl (hb hby at_318) ?_
      show Steps p.tables e below (T178.setTop (mkF m 319 #[.val (.int p1), .val (.int p2), .val (.int p3), .val (.int p4), .val (.int p5), .val (.int l1), .val (.int l2), .val (.int l3), .val (.int l4), .val (.int s1), .val (.int s2), .val (.int kd), .val (.int n0_), .val (.int n1_), .val (.int m0_), .val (.int m1_), .val (.int q0_), .val (.int q1_), .val (.int r0_), .val (.int r1_), .val (.ref x0), .val (.ref x1), .val (.ref x2), .val (.ref x3), .val (.ref t1), .val (.int (own_teq (own_cs l1 n0_ n1_) (own_cs l3 q0_ q1_) (own_cs l1 n0_ n1_) (own_cs l3 q0_ q1_))), .unset, .unset, .unset, .unset] [(.int (3 : Int32)), (.int kd)])) _
      refine XS.icmpNo X178.here hx rfl (hb hby at_319) rfl (teq (by rw [q])).2 ?_
      show Steps p.tables e below (T178.setTop (mkF m 322 #[.val (.int p1), .val (.int p2), .val (.int p3), .val (.int p4), .val (.int p5), .val (.int l1), .val (.int l2), .val (.int l3), .val (.int l4), .val (.int s1), .val (.int s2), .val (.int kd), .val (.int n0_), .val (.int n1_), .val (.int m0_), .val (.int m1_), .val (.int q0_), .val (.int q1_), .val (.int r0_), .val (.int r1_), .val (.ref x0), .val (.ref x1), .val (.ref x2), .val (.ref x3), .val (.ref t1), .val (.int (own_teq (own_cs l1 n0_ n1_) (own_cs l3 q0_ q1_) (own_cs l1 n0_ n1_) (own_cs l3 q0_ q1_))), .unset, .unset, .unset, .unset] [])) _
      refine XS.aload X178.here hx rfl (hb hby at_322) rfl rfl ?_
      show Steps p.tables e below (T178.setTop (mkF m 324 #[.val (.int p1), .val (.int p2), .val (.int p3), .val (.int p4), .val (.int p5), .val (.int l1), .val (.int l2), .val (.int l3), .val (.int l4), .val (.int s1), .val (.int s2), .val (.int kd), .val (.int n0_), .val (.int n1_), .val (.int m0_), .val (.int m1_), .val (.int q0_), .val (.int q1_), .val (.int r0_), .val (.int r1_), .val (.ref x0), .val (.ref x1), .val (.ref x2), .val (.ref x3), .val (.ref t1), .val (.int (own_teq (own_cs l1 n0_ n1_) (own_cs l3 q0_ q1_) (own_cs l1 n0_ n1_) (own_cs l3 q0_ q1_))), .unset, .unset, .unset, .unset] [(.ref x0)])) _
      refine XS.astore X178.here hx rfl (hb hby at_324) rfl rfl (l' := #[.val (.int p1), .val (.int p2), .val (.int p3), .val (.int p4), .val (.int p5), .val (.int l1), .val (.int l2), .val (.int l3), .val (.int l4), .val (.int s1), .val (.int s2), .val (.int kd), .val (.int n0_), .val (.int n1_), .val (.int m0_), .val (.int m1_), .val (.int q0_), .val (.int q1_), .val (.int r0_), .val (.int r1_), .val (.ref x0), .val (.ref x1), .val (.ref x2), .val (.ref x3), .val (.ref t1), .val (.int (own_teq (own_cs l1 n0_ n1_) (own_cs l3 q0_ q1_) (own_cs l1 n0_ n1_) (own_cs l3 q0_ q1_))), .val (.ref x0), .unset, .unset, .unset]) rfl ?_
      show Steps p.tables e below (T178.setTop (mkF m 326 #[.val (.int p1), .val (.int p2), .val (.int p3), .val (.int p4), .val (.int p5), .val (.int l1), .val (.int l2), .val (.int l3), .val (.int l4), .val (.int s1), .val (.int s2), .val (.int kd), .val (.int n0_), .val (.int n1_), .val (.int m0_), .val (.int m1_), .val (.int q0_), .val (.int q1_), .val (.int r0_), .val (.int r1_), .val (.ref x0), .val (.ref x1), .val (.ref x2), .val (.ref x3), .val (.ref t1), .val (.int (own_teq (own_cs l1 n0_ n1_) (own_cs l3 q0_ q1_) (own_cs l1 n0_ n1_) (own_cs l3 q0_ q1_))), .val (.ref x0), .unset, .unset, .unset] [])) _
      refine XS.iconst X178.here hx rfl (hb hby at_326) ?_
      show Steps p.tables e below (T178.setTop (mkF m 327 #[.val (.int p1), .val (.int p2), .val (.int p3), .val (.int p4), .val (.int p5), .val (.int l1), .val (.int l2), .val (.int l3), .val (.int l4), .val (.int s1), .val (.int s2), .val (.int kd), .val (.int n0_), .val (.int n1_), .val (.int m0_), .val (.int m1_), .val (.int q0_), .val (.int q1_), .val (.int r0_), .val (.int r1_), .val (.ref x0), .val (.ref x1), .val (.ref x2), .val (.ref x3), .val (.ref t1), .val (.int (own_teq (own_cs l1 n0_ n1_) (own_cs l3 q0_ q1_) (own_cs l1 n0_ n1_) (own_cs l3 q0_ q1_))), .val (.ref x0), .unset, .unset, .unset] [(.int (0 : Int32))])) _
      refine XS.istore X178.here hx rfl (hb hby at_327) rfl (l' := #[.val (.int p1), .val (.int p2), .val (.int p3), .val (.int p4), .val (.int p5), .val (.int l1), .val (.int l2), .val (.int l3), .val (.int l4), .val (.int s1), .val (.int s2), .val (.int kd), .val (.int n0_), .val (.int n1_), .val (.int m0_), .val (.int m1_), .val (.int q0_), .val (.int q1_), .val (.int r0_), .val (.int r1_), .val (.ref x0), .val (.ref x1), .val (.ref x2), .val (.ref x3), .val (.ref t1), .val (.int (own_teq (own_cs l1 n0_ n1_) (own_cs l3 q0_ q1_) (own_cs l1 n0_ n1_) (own_cs l3 q0_ q1_))), .val (.ref x0), .val (.int (0 : Int32)), .unset, .unset]) rfl ?_
      show Steps p.tables e below (T178.setTop (mkF m 329 #[.val (.int p1), .val (.int p2), .val (.int p3), .val (.int p4), .val (.int p5), .val (.int l1), .val (.int l2), .val (.int l3), .val (.int l4), .val (.int s1), .val (.int s2), .val (.int kd), .val (.int n0_), .val (.int n1_), .val (.int m0_), .val (.int m1_), .val (.int q0_), .val (.int q1_), .val (.int r0_), .val (.int r1_), .val (.ref x0), .val (.ref x1), .val (.ref x2), .val (.ref x3), .val (.ref t1), .val (.int (own_teq (own_cs l1 n0_ n1_) (own_cs l3 q0_ q1_) (own_cs l1 n0_ n1_) (own_cs l3 q0_ q1_))), .val (.ref x0), .val (.int (0 : Int32)), .unset, .unset] [])) _
      refine XS.goto X178.here hx rfl (pc0 := 329) (pc' := 388) rfl (hb hby at_329) (by decide) (by decide) ?_
      show Steps p.tables e below (T178.setTop (mkF m 388 #[.val (.int p1), .val (.int p2), .val (.int p3), .val (.int p4), .val (.int p5), .val (.int l1), .val (.int l2), .val (.int l3), .val (.int l4), .val (.int s1), .val (.int s2), .val (.int kd), .val (.int n0_), .val (.int n1_), .val (.int m0_), .val (.int m1_), .val (.int q0_), .val (.int q1_), .val (.int r0_), .val (.int r1_), .val (.ref x0), .val (.ref x1), .val (.ref x2), .val (.ref x3), .val (.ref t1), .val (.int (own_teq (own_cs l1 n0_ n1_) (own_cs l3 q0_ q1_) (own_cs l1 n0_ n1_) (own_cs l3 q0_ q1_))), .val (.ref x0), .val (.int (0 : Int32)), .unset, .unset] [])) _
      refine XS.aload X178.here hx rfl (hb hby at_388) rfl rfl ?_
      show Steps p.tables e below (T178.setTop (mkF m 390 #[.val (.int p1), .val (.int p2), .val (.int p3), .val (.int p4), .val (.int p5), .val (.int l1), .val (.int l2), .val (.int l3), .val (.int l4), .val (.int s1), .val (.int s2), .val (.int kd), .val (.int n0_), .val (.int n1_), .val (.int m0_), .val (.int m1_), .val (.int q0_), .val (.int q1_), .val (.int r0_), .val (.int r1_), .val (.ref x0), .val (.ref x1), .val (.ref x2), .val (.ref x3), .val (.ref t1), .val (.int (own_teq (own_cs l1 n0_ n1_) (own_cs l3 q0_ q1_) (own_cs l1 n0_ n1_) (own_cs l3 q0_ q1_))), .val (.ref x0), .val (.int (0 : Int32)), .unset, .unset] [(.ref t1)])) _
      refine XS.aload X178.here hx rfl (hb hby at_390) rfl rfl ?_
      show Steps p.tables e below (T178.setTop (mkF m 392 #[.val (.int p1), .val (.int p2), .val (.int p3), .val (.int p4), .val (.int p5), .val (.int l1), .val (.int l2), .val (.int l3), .val (.int l4), .val (.int s1), .val (.int s2), .val (.int kd), .val (.int n0_), .val (.int n1_), .val (.int m0_), .val (.int m1_), .val (.int q0_), .val (.int q1_), .val (.int r0_), .val (.int r1_), .val (.ref x0), .val (.ref x1), .val (.ref x2), .val (.ref x3), .val (.ref t1), .val (.int (own_teq (own_cs l1 n0_ n1_) (own_cs l3 q0_ q1_) (own_cs l1 n0_ n1_) (own_cs l3 q0_ q1_))), .val (.ref x0), .val (.int (0 : Int32)), .unset, .unset] [(.ref x0), (.ref t1)])) _
      refine st247.trans ?_
      show Steps p.tables e below (T247.setTop (mkF m 395 #[.val (.int p1), .val (.int p2), .val (.int p3), .val (.int p4), .val (.int p5), .val (.int l1), .val (.int l2), .val (.int l3), .val (.int l4), .val (.int s1), .val (.int s2), .val (.int kd), .val (.int n0_), .val (.int n1_), .val (.int m0_), .val (.int m1_), .val (.int q0_), .val (.int q1_), .val (.int r0_), .val (.int r1_), .val (.ref x0), .val (.ref x1), .val (.ref x2), .val (.ref x3), .val (.ref t1), .val (.int (own_teq (own_cs l1 n0_ n1_) (own_cs l3 q0_ q1_) (own_cs l1 n0_ n1_) (own_cs l3 q0_ q1_))), .val (.ref x0), .val (.int (0 : Int32)), .unset, .unset] [(.int (0 : Int32))])) _
      refine XS.istore X247.here hx rfl (hb hby at_395) rfl (l' := #[.val (.int p1), .val (.int p2), .val (.int p3), .val (.int p4), .val (.int p5), .val (.int l1), .val (.int l2), .val (.int l3), .val (.int l4), .val (.int s1), .val (.int s2), .val (.int kd), .val (.int n0_), .val (.int n1_), .val (.int m0_), .val (.int m1_), .val (.int q0_), .val (.int q1_), .val (.int r0_), .val (.int r1_), .val (.ref x0), .val (.ref x1), .val (.ref x2), .val (.ref x3), .val (.ref t1), .val (.int (own_teq (own_cs l1 n0_ n1_) (own_cs l3 q0_ q1_) (own_cs l1 n0_ n1_) (own_cs l3 q0_ q1_))), .val (.ref x0), .val (.int (0 : Int32)), .val (.int (0 : Int32)), .unset]) rfl ?_
      show Steps p.tables e below (T247.setTop (mkF m 397 #[.val (.int p1), .val (.int p2), .val (.int p3), .val (.int p4), .val (.int p5), .val (.int l1), .val (.int l2), .val (.int l3), .val (.int l4), .val (.int s1), .val (.int s2), .val (.int kd), .val (.int n0_), .val (.int n1_), .val (.int m0_), .val (.int m1_), .val (.int q0_), .val (.int q1_), .val (.int r0_), .val (.int r1_), .val (.ref x0), .val (.ref x1), .val (.ref x2), .val (.ref x3), .val (.ref t1), .val (.int (own_teq (own_cs l1 n0_ n1_) (own_cs l3 q0_ q1_) (own_cs l1 n0_ n1_) (own_cs l3 q0_ q1_))), .val (.ref x0), .val (.int (0 : Int32)), .val (.int (0 : Int32)), .unset] [])) _
      refine XS.iconst X247.here hx rfl (hb hby at_397) ?_
      show Steps p.tables e below (T247.setTop (mkF m 398 #[.val (.int p1), .val (.int p2), .val (.int p3), .val (.int p4), .val (.int p5), .val (.int l1), .val (.int l2), .val (.int l3), .val (.int l4), .val (.int s1), .val (.int s2), .val (.int kd), .val (.int n0_), .val (.int n1_), .val (.int m0_), .val (.int m1_), .val (.int q0_), .val (.int q1_), .val (.int r0_), .val (.int r1_), .val (.ref x0), .val (.ref x1), .val (.ref x2), .val (.ref x3), .val (.ref t1), .val (.int (own_teq (own_cs l1 n0_ n1_) (own_cs l3 q0_ q1_) (own_cs l1 n0_ n1_) (own_cs l3 q0_ q1_))), .val (.ref x0), .val (.int (0 : Int32)), .val (.int (0 : Int32)), .unset] [(.int (1 : Int32))])) _
      refine XS.istore X247.here hx rfl (hb hby at_398) rfl (l' := #[.val (.int p1), .val (.int p2), .val (.int p3), .val (.int p4), .val (.int p5), .val (.int l1), .val (.int l2), .val (.int l3), .val (.int l4), .val (.int s1), .val (.int s2), .val (.int kd), .val (.int n0_), .val (.int n1_), .val (.int m0_), .val (.int m1_), .val (.int q0_), .val (.int q1_), .val (.int r0_), .val (.int r1_), .val (.ref x0), .val (.ref x1), .val (.ref x2), .val (.ref x3), .val (.ref t1), .val (.int (own_teq (own_cs l1 n0_ n1_) (own_cs l3 q0_ q1_) (own_cs l1 n0_ n1_) (own_cs l3 q0_ q1_))), .val (.ref x0), .val (.int (0 : Int32)), .val (.int (0 : Int32)), .val (.int (1 : Int32))]) rfl ?_
      show Steps p.tables e below (T247.setTop (mkF m 400 #[.val (.int p1), .val (.int p2), .val (.int p3), .val (.int p4), .val (.int p5), .val (.int l1), .val (.int l2), .val (.int l3), .val (.int l4), .val (.int s1), .val (.int s2), .val (.int kd), .val (.int n0_), .val (.int n1_), .val (.int m0_), .val (.int m1_), .val (.int q0_), .val (.int q1_), .val (.int r0_), .val (.int r1_), .val (.ref x0), .val (.ref x1), .val (.ref x2), .val (.ref x3), .val (.ref t1), .val (.int (own_teq (own_cs l1 n0_ n1_) (own_cs l3 q0_ q1_) (own_cs l1 n0_ n1_) (own_cs l3 q0_ q1_))), .val (.ref x0), .val (.int (0 : Int32)), .val (.int (0 : Int32)), .val (.int (1 : Int32))] [])) _
      refine XS.iload X247.here hx rfl (hb hby at_400) rfl ?_
      show Steps p.tables e below (T247.setTop (mkF m 402 #[.val (.int p1), .val (.int p2), .val (.int p3), .val (.int p4), .val (.int p5), .val (.int l1), .val (.int l2), .val (.int l3), .val (.int l4), .val (.int s1), .val (.int s2), .val (.int kd), .val (.int n0_), .val (.int n1_), .val (.int m0_), .val (.int m1_), .val (.int q0_), .val (.int q1_), .val (.int r0_), .val (.int r1_), .val (.ref x0), .val (.ref x1), .val (.ref x2), .val (.ref x3), .val (.ref t1), .val (.int (own_teq (own_cs l1 n0_ n1_) (own_cs l3 q0_ q1_) (own_cs l1 n0_ n1_) (own_cs l3 q0_ q1_))), .val (.ref x0), .val (.int (0 : Int32)), .val (.int (0 : Int32)), .val (.int (1 : Int32))] [(.int kd)])) _
      refine XS.iconst X247.here hx rfl (hb hby at_402) ?_
      show Steps p.tables e below (T247.setTop (mkF m 403 #[.val (.int p1), .val (.int p2), .val (.int p3), .val (.int p4), .val (.int p5), .val (.int l1), .val (.int l2), .val (.int l3), .val (.int l4), .val (.int s1), .val (.int s2), .val (.int kd), .val (.int n0_), .val (.int n1_), .val (.int m0_), .val (.int m1_), .val (.int q0_), .val (.int q1_), .val (.int r0_), .val (.int r1_), .val (.ref x0), .val (.ref x1), .val (.ref x2), .val (.ref x3), .val (.ref t1), .val (.int (own_teq (own_cs l1 n0_ n1_) (own_cs l3 q0_ q1_) (own_cs l1 n0_ n1_) (own_cs l3 q0_ q1_))), .val (.ref x0), .val (.int (0 : Int32)), .val (.int (0 : Int32)), .val (.int (1 : Int32))] [(.int (2 : Int32)), (.int kd)])) _
      refine XS.icmpYes X247.here hx rfl (pc0 := 403) (pc' := 425) rfl (hb hby at_403) rfl (flt (by rw [q]; decide)).2.1 (by decide) (by decide) ?_
      show Steps p.tables e below (T247.setTop (mkF m 425 #[.val (.int p1), .val (.int p2), .val (.int p3), .val (.int p4), .val (.int p5), .val (.int l1), .val (.int l2), .val (.int l3), .val (.int l4), .val (.int s1), .val (.int s2), .val (.int kd), .val (.int n0_), .val (.int n1_), .val (.int m0_), .val (.int m1_), .val (.int q0_), .val (.int q1_), .val (.int r0_), .val (.int r1_), .val (.ref x0), .val (.ref x1), .val (.ref x2), .val (.ref x3), .val (.ref t1), .val (.int (own_teq (own_cs l1 n0_ n1_) (own_cs l3 q0_ q1_) (own_cs l1 n0_ n1_) (own_cs l3 q0_ q1_))), .val (.ref x0), .val (.int (0 : Int32)), .val (.int (0 : Int32)), .val (.int (1 : Int32))] [])) _
      refine XS.iload X247.here hx rfl (hb hby at_425) rfl ?_
      show Steps p.tables e below (T247.setTop (mkF m 427 #[.val (.int p1), .val (.int p2), .val (.int p3), .val (.int p4), .val (.int p5), .val (.int l1), .val (.int l2), .val (.int l3), .val (.int l4), .val (.int s1), .val (.int s2), .val (.int kd), .val (.int n0_), .val (.int n1_), .val (.int m0_), .val (.int m1_), .val (.int q0_), .val (.int q1_), .val (.int r0_), .val (.int r1_), .val (.ref x0), .val (.ref x1), .val (.ref x2), .val (.ref x3), .val (.ref t1), .val (.int (own_teq (own_cs l1 n0_ n1_) (own_cs l3 q0_ q1_) (own_cs l1 n0_ n1_) (own_cs l3 q0_ q1_))), .val (.ref x0), .val (.int (0 : Int32)), .val (.int (0 : Int32)), .val (.int (1 : Int32))] [(.int (own_teq (own_cs l1 n0_ n1_) (own_cs l3 q0_ q1_) (own_cs l1 n0_ n1_) (own_cs l3 q0_ q1_)))])) _
      refine XS.ifNo X247.here hx rfl (hb hby at_427) rfl ((if0 _ _).trans (feq (by rw [own_teqs]; decide)).1) ?_
      show Steps p.tables e below (T247.setTop (mkF m 430 #[.val (.int p1), .val (.int p2), .val (.int p3), .val (.int p4), .val (.int p5), .val (.int l1), .val (.int l2), .val (.int l3), .val (.int l4), .val (.int s1), .val (.int s2), .val (.int kd), .val (.int n0_), .val (.int n1_), .val (.int m0_), .val (.int m1_), .val (.int q0_), .val (.int q1_), .val (.int r0_), .val (.int r1_), .val (.ref x0), .val (.ref x1), .val (.ref x2), .val (.ref x3), .val (.ref t1), .val (.int (own_teq (own_cs l1 n0_ n1_) (own_cs l3 q0_ q1_) (own_cs l1 n0_ n1_) (own_cs l3 q0_ q1_))), .val (.ref x0), .val (.int (0 : Int32)), .val (.int (0 : Int32)), .val (.int (1 : Int32))] [])) _
      refine XS.iload X247.here hx rfl (hb hby at_430) rfl ?_
      show Steps p.tables e below (T247.setTop (mkF m 432 #[.val (.int p1), .val (.int p2), .val (.int p3), .val (.int p4), .val (.int p5), .val (.int l1), .val (.int l2), .val (.int l3), .val (.int l4), .val (.int s1), .val (.int s2), .val (.int kd), .val (.int n0_), .val (.int n1_), .val (.int m0_), .val (.int m1_), .val (.int q0_), .val (.int q1_), .val (.int r0_), .val (.int r1_), .val (.ref x0), .val (.ref x1), .val (.ref x2), .val (.ref x3), .val (.ref t1), .val (.int (own_teq (own_cs l1 n0_ n1_) (own_cs l3 q0_ q1_) (own_cs l1 n0_ n1_) (own_cs l3 q0_ q1_))), .val (.ref x0), .val (.int (0 : Int32)), .val (.int (0 : Int32)), .val (.int (1 : Int32))] [(.int (0 : Int32))])) _
      refine XS.iload X247.here hx rfl (hb hby at_432) rfl ?_
      show Steps p.tables e below (T247.setTop (mkF m 434 #[.val (.int p1), .val (.int p2), .val (.int p3), .val (.int p4), .val (.int p5), .val (.int l1), .val (.int l2), .val (.int l3), .val (.int l4), .val (.int s1), .val (.int s2), .val (.int kd), .val (.int n0_), .val (.int n1_), .val (.int m0_), .val (.int m1_), .val (.int q0_), .val (.int q1_), .val (.int r0_), .val (.int r1_), .val (.ref x0), .val (.ref x1), .val (.ref x2), .val (.ref x3), .val (.ref t1), .val (.int (own_teq (own_cs l1 n0_ n1_) (own_cs l3 q0_ q1_) (own_cs l1 n0_ n1_) (own_cs l3 q0_ q1_))), .val (.ref x0), .val (.int (0 : Int32)), .val (.int (0 : Int32)), .val (.int (1 : Int32))] [(.int (0 : Int32)), (.int (0 : Int32))])) _
      refine XS.icmpNo X247.here hx rfl (hb hby at_434) rfl (teq (rfl : (0 : Int32) = 0)).2 ?_
      show Steps p.tables e below (T247.setTop (mkF m 437 #[.val (.int p1), .val (.int p2), .val (.int p3), .val (.int p4), .val (.int p5), .val (.int l1), .val (.int l2), .val (.int l3), .val (.int l4), .val (.int s1), .val (.int s2), .val (.int kd), .val (.int n0_), .val (.int n1_), .val (.int m0_), .val (.int m1_), .val (.int q0_), .val (.int q1_), .val (.int r0_), .val (.int r1_), .val (.ref x0), .val (.ref x1), .val (.ref x2), .val (.ref x3), .val (.ref t1), .val (.int (own_teq (own_cs l1 n0_ n1_) (own_cs l3 q0_ q1_) (own_cs l1 n0_ n1_) (own_cs l3 q0_ q1_))), .val (.ref x0), .val (.int (0 : Int32)), .val (.int (0 : Int32)), .val (.int (1 : Int32))] [])) _
      refine XS.iload X247.here hx rfl (hb hby at_437) rfl ?_
      show Steps p.tables e below (T247.setTop (mkF m 439 #[.val (.int p1), .val (.int p2), .val (.int p3), .val (.int p4), .val (.int p5), .val (.int l1), .val (.int l2), .val (.int l3), .val (.int l4), .val (.int s1), .val (.int s2), .val (.int kd), .val (.int n0_), .val (.int n1_), .val (.int m0_), .val (.int m1_), .val (.int q0_), .val (.int q1_), .val (.int r0_), .val (.int r1_), .val (.ref x0), .val (.ref x1), .val (.ref x2), .val (.ref x3), .val (.ref t1), .val (.int (own_teq (own_cs l1 n0_ n1_) (own_cs l3 q0_ q1_) (own_cs l1 n0_ n1_) (own_cs l3 q0_ q1_))), .val (.ref x0), .val (.int (0 : Int32)), .val (.int (0 : Int32)), .val (.int (1 : Int32))] [(.int (1 : Int32))])) _
      refine XS.ifNo X247.here hx rfl (hb hby at_439) rfl ((if0 _ _).trans (feq (by decide : ¬ (1 : Int32) = 0)).1) ?_
      show Steps p.tables e below (T247.setTop (mkF m 442 #[.val (.int p1), .val (.int p2), .val (.int p3), .val (.int p4), .val (.int p5), .val (.int l1), .val (.int l2), .val (.int l3), .val (.int l4), .val (.int s1), .val (.int s2), .val (.int kd), .val (.int n0_), .val (.int n1_), .val (.int m0_), .val (.int m1_), .val (.int q0_), .val (.int q1_), .val (.int r0_), .val (.int r1_), .val (.ref x0), .val (.ref x1), .val (.ref x2), .val (.ref x3), .val (.ref t1), .val (.int (own_teq (own_cs l1 n0_ n1_) (own_cs l3 q0_ q1_) (own_cs l1 n0_ n1_) (own_cs l3 q0_ q1_))), .val (.ref x0), .val (.int (0 : Int32)), .val (.int (0 : Int32)), .val (.int (1 : Int32))] [])) _
      refine XS.iconst X247.here hx rfl (hb hby at_442) ?_
      show Steps p.tables e below (T247.setTop (mkF m 443 #[.val (.int p1), .val (.int p2), .val (.int p3), .val (.int p4), .val (.int p5), .val (.int l1), .val (.int l2), .val (.int l3), .val (.int l4), .val (.int s1), .val (.int s2), .val (.int kd), .val (.int n0_), .val (.int n1_), .val (.int m0_), .val (.int m1_), .val (.int q0_), .val (.int q1_), .val (.int r0_), .val (.int r1_), .val (.ref x0), .val (.ref x1), .val (.ref x2), .val (.ref x3), .val (.ref t1), .val (.int (own_teq (own_cs l1 n0_ n1_) (own_cs l3 q0_ q1_) (own_cs l1 n0_ n1_) (own_cs l3 q0_ q1_))), .val (.ref x0), .val (.int (0 : Int32)), .val (.int (0 : Int32)), .val (.int (1 : Int32))] [(.int (1 : Int32))])) _
      refine XS.goto X247.here hx rfl (pc0 := 443) (pc' := 447) rfl (hb hby at_443) (by decide) (by decide) ?_
      exact k_)
    obtain ⟨fs, hr, hrun, hended, hWr, hW1, hW2, hsame⟩ := Jvm.Stand.leaveW (s := s) X247 hS170' (by rw [e247]; exact (Nat.le_refl _)) (v := some (.int (1 : Int32))) (fun h => by rw [Bd.returns] at h; cases h)
    refine ⟨_, _, pre248 _ ?_, hrun, hended, _, _, rfl, ?_, hWr, hW1, hW2, hsame.mono (by decide) (by decide)⟩
    · show Steps p.tables e below (T247.setTop (mkF m 447 #[.val (.int p1), .val (.int p2), .val (.int p3), .val (.int p4), .val (.int p5), .val (.int l1), .val (.int l2), .val (.int l3), .val (.int l4), .val (.int s1), .val (.int s2), .val (.int kd), .val (.int n0_), .val (.int n1_), .val (.int m0_), .val (.int m1_), .val (.int q0_), .val (.int q1_), .val (.int r0_), .val (.int r1_), .val (.ref x0), .val (.ref x1), .val (.ref x2), .val (.ref x3), .val (.ref t1), .val (.int (own_teq (own_cs l1 n0_ n1_) (own_cs l3 q0_ q1_) (own_cs l1 n0_ n1_) (own_cs l3 q0_ q1_))), .val (.ref x0), .val (.int (0 : Int32)), .val (.int (0 : Int32)), .val (.int (1 : Int32))] [(.int (1 : Int32))])) _
      exact retN X247 hx (t := .boolean) Bd.returns (by simp) (hb hby at_447) hr
    · show Qrm0 Z p1 p2 p3 p4 p5 zc h0 n0 _ T247.heap _
      rw [e247]
      exact ⟨rfl, N247⟩
set_option maxRecDepth 65536 in
set_option maxHeartbeats 40000000 in
theorem comes_1 {Post : Tables → Env → Array Value → State → Outcome → State → Prop} (hpost : ∀ tb e args s v u, (limb_1_1.after args s (.returned v) u = true ∧ limb_1_2.after args s (.returned v) u = true ∧ True) → ReturnedEndW s (.returned v) u (Jvm.fieldLocs frame_1_writes args s ++ Jvm.arrayLocs frame_1_arrays args s ++ Jvm.staticLocs frame_1_statics s) 48 3264 → Post tb e args s (.returned v) u) :
    ArmFor flags0 classFile x code maxLocals ret World_1 tables_1 room_1 Calls_1 rest_1 Pre_1 Post := by
  intro l hfl _ _ p e ha hc hk s m args below hf hA hF happ hP
  obtain ⟨hcalls, hrest, hpre⟩ := hP
  obtain ⟨-, -, -, hnamed, -, -, -, hat⟩ := (Spec.applies_iff hf).mp happ
  obtain ⟨hg, hn⟩ := and_e (Cond.before_iff.mp (show (Jvm.Cond.and given_1 narrow_1).before args s = true from hpre))
  obtain ⟨gg1, gg2⟩ := and_e hg
  obtain ⟨gg3, gg4⟩ := and_e gg2
  obtain ⟨gg5, gg6⟩ := and_e gg4
  obtain ⟨gg7, gg8⟩ := and_e gg6
  obtain ⟨gg9, gg10⟩ := and_e gg8
  obtain ⟨w0, w1, w2, w3, w4, rfl⟩ : ∃ w0 w1 w2 w3 w4 : Value, args = #[w0, w1, w2, w3, w4] := by
    have hs : args.size = 5 := by simpa [Cond.value, given_1] using gg1
    obtain ⟨L⟩ := args
    match L, hs with
    | [w0, w1, w2, w3, w4], _ => exact ⟨w0, w1, w2, w3, w4, rfl⟩
  have hw := fun d (hd : d ∈ tables_1) => atoms_spec (ws := Jvm.Cond.code x code maxLocals ret :: tables_1) hat d (List.mem_cons_of_mem _ hd)
  have hfit : Fit s := fun {y c} hc i hi => by
    obtain ⟨ha, rfl⟩ := Array.getElem?_eq_some_iff.mp hc
    have q := List.all_eq_true.mp ((Array.all_eq_true_iff_forall_mem.mp hF) _ (Array.getElem_mem ha)) i (List.mem_range.mpr hi)
    simpa [Array.getElem?_eq_getElem hi] using q
  obtain ⟨i0, ei0⟩ := is_v gg3
  obtain rfl : w0 = (.int i0) := Option.some.inj ei0
  obtain ⟨i1, ei1⟩ := is_v gg5
  obtain rfl : w1 = (.int i1) := Option.some.inj ei1
  obtain ⟨i2, ei2⟩ := is_v gg7
  obtain rfl : w2 = (.int i2) := Option.some.inj ei2
  obtain ⟨i3, ei3⟩ := is_v gg9
  obtain rfl : w3 = (.int i3) := Option.some.inj ei3
  obtain ⟨i4, ei4⟩ := is_v gg10
  obtain rfl : w4 = (.int i4) := Option.some.inj ei4
  obtain ⟨hsets, hown0⟩ := atoms_of _ (rest_1_c_eq ▸ (show rest_1_c.before _ s = true from hrest))
  obtain ⟨zc, ezc⟩ := is_v (Cond.before_iff.mp (hsets _ (List.mem_of_getElem? (i := 1) rfl)))
  have S_c := Sta.start ezc (Or.inl (hsets _ (List.mem_of_getElem? (i := 0) rfl)))
  have hzc : ¬ zc = 0 := gotF (Cond.eq_ints ezc (Term.int_eval 0)) (not_v (Cond.before_iff.mp (hsets _ (List.mem_of_getElem? (i := 2) rfl))))
  have hCH : CHv s own_EL s.vm s.heap := CHv.start (a0 := _) (own_EW hw) (fun p hp => hcalls.1 p hp) (hsets _ (List.mem_of_getElem? (i := 2) rfl)) (hw _ (List.mem_of_getElem? (i := 19) rfl)) (hw _ (List.mem_of_getElem? (i := 5) rfl))
  obtain ⟨n, o, h1, h2, h3, _, L, rfl, ⟨rfl, N⟩, hq⟩ := rm0 l s _ hw tables_1 i0 i1 i2 i3 i4 zc s.heap s.heap.size (Nat.le_refl _) (Old.start s) S_c hzc p e ha hc hk s m _ below hf ((Spec.applies_iff_loose hf).mp happ).1 ⟨rfl, State.Warmed39.refl s, rfl, hCH⟩ trivial
  refine ⟨n, _, h1, h2, h3, hpost _ _ _ _ _ _ ⟨Cond.after_iff.mpr rfl, Cond.after_iff.mpr (eq_i res_at (Term.int_eval (1)) rfl), trivial⟩ ⟨hq.1, hq.2.1, hq.2.2.1, (hq.2.2.2.sift fun y hy => Or.inr (N y hy)).mono (by decide) (by decide)⟩⟩
theorem main_1_1 : Claimed_1_1 := comes_1 fun _ _ _ _ _ _ h hF => ⟨h.1, hF⟩
theorem main_1_2 : Claimed_1_2 := comes_1 fun _ _ _ _ _ _ h hF => ⟨h.2.1, hF⟩
end Jvm.Pilot.@@N@@
namespace Jvm.Pilot.@@N@@
open Jvm Jvm.ClassFile Sem Op Lib Jvm.Free Jvm.Stand Jvm.Pilot.@@N@@.Jvm.D
/-! MADE BY PROGRAM (witnessworld.py) out of the Statement's table words and the real class files: 21 classes; the members and pool entries that the words name. The judged class is class 1, her method 3. -/
namespace start1
open Jvm.ClassFile
def u (s : String) : CpInfo := .utf8 (stringToUtf16 s)
/-- a pool by its gaps: so many unusable entries, then the entry; so many at the end -/
def gap : Nat → List CpInfo → List CpInfo
  | 0, r => r
  | n + 1, r => .unusable :: gap n r
def poolList (es : List (Nat × CpInfo)) (last : Nat) : List CpInfo := es.foldr (fun e r => gap e.1 (e.2 :: r)) (gap last [])
def pool (es : List (Nat × CpInfo)) (last : Nat) : Array CpInfo := ⟨poolList es last⟩
def fileOf (pool : Array CpInfo) (this : Nat) (attrs : Array Attribute := #[]) (ms : Array MethodInfo := #[]) (fl : Nat := 33) (sup : Nat := 0) (ifs : Array Nat := #[]) (fds : Array FieldInfo := #[]) : ClassFile where
  minorVersion := 0
  majorVersion := 65
  constantPool := pool
  accessFlags := fl
  thisClass := this
  superClass := sup
  interfaces := ifs
  fields := fds
  methods := ms
  attributes := attrs
def plain (name : String) (sup : Option ClassId) : Class where
  name := name
  kind := .ordinary
  loader := none
  accessFlags := 33
  super := sup
  interfaces := #[]
  cf := none
  fields := #[]
  methods := #[]
  instanceTypes := #[]
  staticTypes := #[]
  resolved := #[]
  callSites := []
  init := .initialized
  statics := none
  mirror := none

def pool0 : Array CpInfo := pool [(5, u "<init>"), (0, u "()V"), (1, .class_ 10), (1, u "java/lang/Object"), (81, u "equals"), (0, u "(Ljava/lang/Object;)Z")] 30

def k0c0 : Code := { maxStack := 0, maxLocals := 1, code := object_method_1_code, exceptionTable := #[], attributes := #[] }
def k0m0 : Method := { name := "<init>", desc := "()V", sig := { parameters := [], returnType := none }, accessFlags := 1, code := some k0c0 }
def k0c1 : Code := { maxStack := 2, maxLocals := 2, code := ⟨#[0x2a, 0x2b, 0xa6, 0x00, 0x07, 0x04, 0xa7, 0x00, 0x04, 0x03, 0xac]⟩, exceptionTable := #[], attributes := #[] }
def k0m1 : Method := { name := "equals", desc := "(Ljava/lang/Object;)Z", sig := { parameters := [(.object "java/lang/Object")], returnType := some .boolean }, accessFlags := 1, code := some k0c1 }
/-- java/lang/Object -/
def k0 : Class := { plain "java/lang/Object" none with
  accessFlags := 33
  interfaces := #[]
  cf := some (fileOf pool0 8 #[] #[{ accessFlags := 1, nameIndex := 5, descriptorIndex := 6, attributes := #[] }, { accessFlags := 1, nameIndex := 92, descriptorIndex := 93, attributes := #[] }] 33 0 #[] #[])
  fields := #[]
  methods := #[k0m0, k0m1]
  instanceTypes := #[]
  staticTypes := #[]
  resolved := Array.replicate 124 none
  statics := none }

def pool1 : Array CpInfo := pool [(2, .class_ 4), (1, u "java/lang/Object"), (0, u "<init>"), (0, u "()V"), (0, .class_ 8), (0, u "java/lang/String"), (0, .methodref 7 10), (0, .nameAndType 5 11), (0, u "([C)V"), (0, .methodref 13 14), (0, .class_ 15), (0, .nameAndType 16 17), (0, u "com/example/cranfield/cranfield/model/TopicEqualsPinLaw"), (0, u "str"), (0, u "(ICC)Ljava/lang/String;"), (0, .class_ 19), (0, u "com/example/cranfield/cranfield/model/Topic"), (0, .methodref 18 21), (0, .nameAndType 5 22), (0, u "(Ljava/lang/String;Ljava/lang/String;)V"), (0, .methodref 18 24), (0, .nameAndType 25 26), (0, u "equals"), (0, u "(Ljava/lang/Object;)Z"), (0, .methodref 13 28), (0, .nameAndType 29 30), (0, u "same"), (0, u "(ICCICC)Z"), (0, .methodref 2 24), (3, u "law"), (0, u "(IIIII)Z")] 2

def k1m0 : Method := { name := "<init>", desc := "()V", sig := { parameters := [], returnType := none }, accessFlags := 1, code := none }
def k1c1 : Code := { maxStack := 6, maxLocals := 3, code := method_2_code, exceptionTable := #[], attributes := #[] }
def k1m1 : Method := { name := "str", desc := "(ICC)Ljava/lang/String;", sig := { parameters := [.int, .char, .char], returnType := some (.object "java/lang/String") }, accessFlags := 10, code := some k1c1 }
def k1c2 : Code := { maxStack := 2, maxLocals := 6, code := method_3_code, exceptionTable := #[], attributes := #[] }
def k1m2 : Method := { name := "same", desc := "(ICCICC)Z", sig := { parameters := [.int, .char, .char, .int, .char, .char], returnType := some .boolean }, accessFlags := 10, code := some k1c2 }
def k1c3 : Code := { maxStack := 6, maxLocals := 30, code := code, exceptionTable := #[], attributes := #[] }
def k1m3 : Method := { name := "law", desc := "(IIIII)Z", sig := { parameters := [.int, .int, .int, .int, .int], returnType := some .boolean }, accessFlags := 9, code := some k1c3 }
/-- com/example/cranfield/cranfield/model/TopicEqualsPinLaw -/
def k1 : Class := { plain "com/example/cranfield/cranfield/model/TopicEqualsPinLaw" (some 0) with
  accessFlags := 49
  interfaces := #[]
  cf := some (fileOf pool1 13 #[] #[{ accessFlags := 1, nameIndex := 5, descriptorIndex := 6, attributes := #[] }, { accessFlags := 10, nameIndex := 16, descriptorIndex := 17, attributes := #[] }, { accessFlags := 10, nameIndex := 29, descriptorIndex := 30, attributes := #[] }, { accessFlags := 9, nameIndex := 35, descriptorIndex := 36, attributes := #[] }] 49 2 #[] #[])
  fields := #[]
  methods := #[k1m0, k1m1, k1m2, k1m3]
  instanceTypes := #[]
  staticTypes := #[]
  resolved := Array.replicate 39 none
  statics := none }

def pool2 : Array CpInfo := pool [(1, .class_ 2), (0, u "java/io/Serializable"), (0, .class_ 4), (0, u "java/lang/Object")] 2

/-- java/io/Serializable -/
def k2 : Class := { plain "java/io/Serializable" (some 0) with
  accessFlags := 1537
  interfaces := #[]
  cf := some (fileOf pool2 1 #[] #[] 1537 3 #[] #[])
  fields := #[]
  methods := #[]
  instanceTypes := #[]
  staticTypes := #[]
  resolved := Array.replicate 7 none
  statics := none }

def pool3 : Array CpInfo := pool [(1, .class_ 2), (0, u "java/lang/Comparable"), (0, .class_ 4), (0, u "java/lang/Object")] 7

/-- java/lang/Comparable -/
def k3 : Class := { plain "java/lang/Comparable" (some 0) with
  accessFlags := 1537
  interfaces := #[]
  cf := some (fileOf pool3 1 #[] #[] 1537 3 #[] #[])
  fields := #[]
  methods := #[]
  instanceTypes := #[]
  staticTypes := #[]
  resolved := Array.replicate 12 none
  statics := none }

def pool4 : Array CpInfo := pool [(2, .class_ 4), (1, u "java/lang/CharSequence"), (42, .class_ 48), (0, u "java/lang/CharSequence$1CodePointIterator"), (10, .class_ 60), (0, u "java/lang/CharSequence$1CharIterator"), (5, .class_ 67), (0, u "java/lang/Object")] 63

/-- java/lang/CharSequence -/
def k4 : Class := { plain "java/lang/CharSequence" (some 0) with
  accessFlags := 1537
  interfaces := #[]
  cf := some (fileOf pool4 2 #[.nestMembers #[47, 59]] #[] 1537 66 #[] #[])
  fields := #[]
  methods := #[]
  instanceTypes := #[]
  staticTypes := #[]
  resolved := Array.replicate 131 none
  statics := none }

def pool5 : Array CpInfo := pool [(1, .class_ 2), (0, u "java/lang/constant/Constable"), (0, .class_ 4), (0, u "java/lang/Object")] 6

/-- java/lang/constant/Constable -/
def k5 : Class := { plain "java/lang/constant/Constable" (some 0) with
  accessFlags := 1537
  interfaces := #[]
  cf := some (fileOf pool5 1 #[] #[] 1537 3 #[] #[])
  fields := #[]
  methods := #[]
  instanceTypes := #[]
  staticTypes := #[]
  resolved := Array.replicate 11 none
  statics := none }

def pool6 : Array CpInfo := pool [(1, .class_ 2), (0, u "java/lang/constant/ConstantDesc"), (0, .class_ 4), (0, u "java/lang/Object")] 32

/-- java/lang/constant/ConstantDesc -/
def k6 : Class := { plain "java/lang/constant/ConstantDesc" (some 0) with
  accessFlags := 1537
  interfaces := #[]
  cf := some (fileOf pool6 1 #[] #[] 1537 3 #[] #[])
  fields := #[]
  methods := #[]
  instanceTypes := #[]
  staticTypes := #[]
  resolved := Array.replicate 37 none
  statics := none }

def pool7 : Array CpInfo := pool [(1, .methodref 2 3), (0, .class_ 4), (0, .nameAndType 5 6), (0, u "java/lang/Object"), (0, u "<init>"), (0, u "()V"), (0, .string 8), (0, u ""), (0, .fieldref 10 11), (0, .class_ 12), (0, .nameAndType 13 14), (0, u "java/lang/String"), (0, u "value"), (0, u "[B"), (0, .fieldref 10 16), (0, .nameAndType 17 18), (0, u "coder"), (0, u "B"), (2, u "hash"), (0, u "I"), (2, u "hashIsZero"), (0, u "Z"), (0, .methodref 10 28), (0, .nameAndType 5 29), (0, u "([CIILjava/lang/Void;)V"), (8, .fieldref 10 39), (0, .nameAndType 40 26), (0, u "COMPACT_STRINGS"), (1, .class_ 44), (1, u "java/lang/StringUTF16"), (0, u "compress"), (1, .methodref 42 48), (0, .nameAndType 49 50), (0, u "coderFromArrayLen"), (0, u "([BI)B"), (56, .class_ 109), (1, u "java/lang/StringLatin1"), (67, .methodref 42 178), (0, .nameAndType 45 179), (0, u "([CII)[B"), (361, .methodref 107 542), (0, .nameAndType 543 544), (0, u "equals"), (0, u "([B[B)Z"), (28, u "(Ljava/lang/Object;)Z"), (1, .class_ 576), (0, u "java/lang/CharSequence"), (22, u "CASE_INSENSITIVE_ORDER"), (0, u "Ljava/util/Comparator;"), (409, u "([C)V"), (90, u "serialPersistentFields"), (0, u "[Ljava/io/ObjectStreamField;"), (0, .class_ 1104), (0, u "java/lang/String$CaseInsensitiveComparator"), (1, .class_ 1107), (0, u "java/io/Serializable"), (0, .class_ 1109), (0, u "java/lang/Comparable"), (0, .class_ 1111), (0, u "java/lang/constant/Constable"), (0, .class_ 1113), (0, u "java/lang/constant/ConstantDesc"), (2, u "serialVersionUID"), (0, u "J"), (3, u "REPL"), (0, u "C"), (2, u "LATIN1"), (1, u "UTF16")] 323

def k7m0 : Method := { name := "<init>", desc := "()V", sig := { parameters := [], returnType := none }, accessFlags := 1, code := none }
def k7c1 : Code := { maxStack := 5, maxLocals := 2, code := jdk_42_method_3_code, exceptionTable := #[], attributes := #[] }
def k7m1 : Method := { name := "<init>", desc := "([C)V", sig := { parameters := [(.array .char)], returnType := none }, accessFlags := 1, code := some k7c1 }
def k7c2 : Code := { maxStack := 2, maxLocals := 3, code := jdk_42_method_66_code, exceptionTable := #[], attributes := #[] }
def k7m2 : Method := { name := "equals", desc := "(Ljava/lang/Object;)Z", sig := { parameters := [(.object "java/lang/Object")], returnType := some .boolean }, accessFlags := 1, code := some k7c2 }
def k7c3 : Code := { maxStack := 4, maxLocals := 6, code := jdk_42_method_149_code, exceptionTable := #[], attributes := #[] }
def k7m3 : Method := { name := "<init>", desc := "([CIILjava/lang/Void;)V", sig := { parameters := [(.array .char), .int, .int, (.object "java/lang/Void")], returnType := none }, accessFlags := 2, code := some k7c3 }
/-- java/lang/String -/
def k7 : Class := { plain "java/lang/String" (some 0) with
  accessFlags := 49
  interfaces := #[2, 3, 4, 5, 6]
  cf := some (fileOf pool7 10 #[.nestMembers #[1103]] #[{ accessFlags := 1, nameIndex := 5, descriptorIndex := 6, attributes := #[] }, { accessFlags := 1, nameIndex := 5, descriptorIndex := 1010, attributes := #[] }, { accessFlags := 1, nameIndex := 543, descriptorIndex := 573, attributes := #[] }, { accessFlags := 2, nameIndex := 5, descriptorIndex := 29, attributes := #[] }] 49 2 #[1106, 1108, 575, 1110, 1112] #[{ accessFlags := 18, nameIndex := 13, descriptorIndex := 14, attributes := #[] }, { accessFlags := 18, nameIndex := 17, descriptorIndex := 18, attributes := #[] }, { accessFlags := 2, nameIndex := 21, descriptorIndex := 22, attributes := #[] }, { accessFlags := 2, nameIndex := 25, descriptorIndex := 26, attributes := #[] }, { accessFlags := 26, nameIndex := 1116, descriptorIndex := 1117, attributes := #[] }, { accessFlags := 24, nameIndex := 40, descriptorIndex := 26, attributes := #[] }, { accessFlags := 26, nameIndex := 1101, descriptorIndex := 1102, attributes := #[] }, { accessFlags := 26, nameIndex := 1121, descriptorIndex := 1122, attributes := #[] }, { accessFlags := 25, nameIndex := 599, descriptorIndex := 600, attributes := #[] }, { accessFlags := 24, nameIndex := 1125, descriptorIndex := 18, attributes := #[] }, { accessFlags := 24, nameIndex := 1127, descriptorIndex := 18, attributes := #[] }])
  fields := #[{ name := "value", type := (.array .byte), accessFlags := 18, slot := 0, constantValue := 0 }, { name := "coder", type := .byte, accessFlags := 18, slot := 1, constantValue := 0 }, { name := "hash", type := .int, accessFlags := 2, slot := 2, constantValue := 0 }, { name := "hashIsZero", type := .boolean, accessFlags := 2, slot := 3, constantValue := 0 }, { name := "serialVersionUID", type := .long, accessFlags := 26, slot := 0, constantValue := 0 }, { name := "COMPACT_STRINGS", type := .boolean, accessFlags := 24, slot := 1, constantValue := 0 }, { name := "serialPersistentFields", type := (.array (.object "java/io/ObjectStreamField")), accessFlags := 26, slot := 2, constantValue := 0 }, { name := "REPL", type := .char, accessFlags := 26, slot := 3, constantValue := 0 }, { name := "CASE_INSENSITIVE_ORDER", type := (.object "java/util/Comparator"), accessFlags := 25, slot := 4, constantValue := 0 }, { name := "LATIN1", type := .byte, accessFlags := 24, slot := 5, constantValue := 0 }, { name := "UTF16", type := .byte, accessFlags := 24, slot := 6, constantValue := 0 }]
  methods := #[k7m0, k7m1, k7m2, k7m3]
  instanceTypes := #[(.array .byte), .byte, .int, .boolean]
  staticTypes := #[.long, .boolean, (.array (.object "java/io/ObjectStreamField")), .char, (.object "java/util/Comparator"), .byte, .byte]
  resolved := Array.replicate 1451 none
  statics := some 0 }

def pool8 : Array CpInfo := pool [(1, .methodref 2 3), (0, .class_ 4), (0, .nameAndType 5 6), (0, u "java/lang/Object"), (0, u "<init>"), (0, u "()V"), (0, .string 8), (0, u "number"), (0, .methodref 10 11), (0, .class_ 12), (0, .nameAndType 13 14), (0, u "java/util/Objects"), (0, u "requireNonNull"), (0, u "(Ljava/lang/Object;Ljava/lang/String;)Ljava/lang/Object;"), (0, .class_ 16), (0, u "java/lang/String"), (0, .fieldref 18 19), (0, .class_ 20), (0, .nameAndType 8 21), (0, u "com/example/cranfield/cranfield/model/Topic"), (0, u "Ljava/lang/String;"), (0, .string 23), (0, u "query"), (0, .fieldref 18 25), (0, .nameAndType 23 21), (0, .methodref 15 27), (0, .nameAndType 28 29), (0, u "equals"), (0, u "(Ljava/lang/Object;)Z"), (8, u "(Ljava/lang/String;Ljava/lang/String;)V")] 24

def k8c0 : Code := { maxStack := 3, maxLocals := 3, code := prog_62_method_1_code, exceptionTable := #[], attributes := #[] }
def k8m0 : Method := { name := "<init>", desc := "(Ljava/lang/String;Ljava/lang/String;)V", sig := { parameters := [(.object "java/lang/String"), (.object "java/lang/String")], returnType := none }, accessFlags := 1, code := some k8c0 }
def k8c1 : Code := { maxStack := 2, maxLocals := 3, code := prog_62_method_4_code, exceptionTable := #[], attributes := #[] }
def k8m1 : Method := { name := "equals", desc := "(Ljava/lang/Object;)Z", sig := { parameters := [(.object "java/lang/Object")], returnType := some .boolean }, accessFlags := 1, code := some k8c1 }
/-- com/example/cranfield/cranfield/model/Topic -/
def k8 : Class := { plain "com/example/cranfield/cranfield/model/Topic" (some 0) with
  accessFlags := 33
  interfaces := #[]
  cf := some (fileOf pool8 18 #[] #[{ accessFlags := 1, nameIndex := 5, descriptorIndex := 38, attributes := #[] }, { accessFlags := 1, nameIndex := 28, descriptorIndex := 29, attributes := #[] }] 33 2 #[] #[{ accessFlags := 18, nameIndex := 8, descriptorIndex := 21, attributes := #[] }, { accessFlags := 18, nameIndex := 23, descriptorIndex := 21, attributes := #[] }])
  fields := #[{ name := "number", type := (.object "java/lang/String"), accessFlags := 18, slot := 0, constantValue := 0 }, { name := "query", type := (.object "java/lang/String"), accessFlags := 18, slot := 1, constantValue := 0 }]
  methods := #[k8m0, k8m1]
  instanceTypes := #[(.object "java/lang/String"), (.object "java/lang/String")]
  staticTypes := #[]
  resolved := Array.replicate 63 none
  statics := none }

def pool9 : Array CpInfo := pool [(2, .class_ 4), (1, u "java/lang/Object"), (0, u "<init>"), (0, u "()V"), (35, .class_ 44), (1, u "java/util/Objects"), (0, u "requireNonNull"), (48, u "(Ljava/lang/Object;Ljava/lang/String;)Ljava/lang/Object;")] 89

def k9m0 : Method := { name := "<init>", desc := "()V", sig := { parameters := [], returnType := none }, accessFlags := 2, code := none }
def k9c1 : Code := { maxStack := 3, maxLocals := 2, code := jdk_31_method_11_code, exceptionTable := #[], attributes := #[] }
def k9m1 : Method := { name := "requireNonNull", desc := "(Ljava/lang/Object;Ljava/lang/String;)Ljava/lang/Object;", sig := { parameters := [(.object "java/lang/Object"), (.object "java/lang/String")], returnType := some (.object "java/lang/Object") }, accessFlags := 9, code := some k9c1 }
/-- java/util/Objects -/
def k9 : Class := { plain "java/util/Objects" (some 0) with
  accessFlags := 49
  interfaces := #[]
  cf := some (fileOf pool9 42 #[] #[{ accessFlags := 2, nameIndex := 5, descriptorIndex := 6, attributes := #[] }, { accessFlags := 9, nameIndex := 45, descriptorIndex := 94, attributes := #[] }] 49 2 #[] #[])
  fields := #[]
  methods := #[k9m0, k9m1]
  instanceTypes := #[]
  staticTypes := #[]
  resolved := Array.replicate 184 none
  statics := none }

def pool10 : Array CpInfo := pool [(4, .class_ 6), (1, u "java/lang/Object"), (0, u "<init>"), (0, u "()V"), (5, .class_ 16), (1, u "java/lang/StringLatin1"), (104, u "$assertionsDisabled"), (0, u "Z"), (98, .class_ 223), (1, u "java/lang/StringLatin1$LinesSpliterator"), (57, u "equals"), (0, u "([B[B)Z"), (107, .class_ 391), (0, u "java/lang/StringLatin1$CharsSpliterator")] 3

def k10m0 : Method := { name := "<init>", desc := "()V", sig := { parameters := [], returnType := none }, accessFlags := 0, code := none }
def k10c1 : Code := { maxStack := 3, maxLocals := 3, code := jdk_43_method_13_code, exceptionTable := #[], attributes := #[] }
def k10m1 : Method := { name := "equals", desc := "([B[B)Z", sig := { parameters := [(.array .byte), (.array .byte)], returnType := some .boolean }, accessFlags := 9, code := some k10c1 }
/-- java/lang/StringLatin1 -/
def k10 : Class := { plain "java/lang/StringLatin1" (some 0) with
  accessFlags := 48
  interfaces := #[]
  cf := some (fileOf pool10 14 #[.nestMembers #[390, 221]] #[{ accessFlags := 0, nameIndex := 7, descriptorIndex := 8, attributes := #[] }, { accessFlags := 9, nameIndex := 281, descriptorIndex := 282, attributes := #[] }] 48 4 #[] #[{ accessFlags := 4120, nameIndex := 121, descriptorIndex := 122, attributes := #[] }])
  fields := #[{ name := "$assertionsDisabled", type := .boolean, accessFlags := 4120, slot := 0, constantValue := 0 }]
  methods := #[k10m0, k10m1]
  instanceTypes := #[]
  staticTypes := #[.boolean]
  resolved := Array.replicate 395 none
  statics := none }

def pool11 : Array CpInfo := pool [(6, .class_ 8), (1, u "java/lang/Object"), (0, u "<init>"), (0, u "()V"), (1, .class_ 14), (1, u "java/lang/StringUTF16"), (31, u "$assertionsDisabled"), (0, u "Z"), (13, u "HI_BYTE_SHIFT"), (0, u "I"), (2, u "LO_BYTE_SHIFT"), (49, .methodref 12 116), (0, .nameAndType 117 118), (0, u "compress"), (0, u "([CI[BII)I"), (3, u "([CII)[B"), (138, u "coderFromArrayLen"), (0, u "([BI)B"), (106, .class_ 371), (1, u "java/lang/StringUTF16$LinesSpliterator"), (58, u "MAX_LENGTH"), (196, .class_ 628), (0, u "java/lang/StringUTF16$CodePointsSpliterator"), (0, .class_ 630), (0, u "java/lang/StringUTF16$CharsSpliterator")] 4

def k11m0 : Method := { name := "<init>", desc := "()V", sig := { parameters := [], returnType := none }, accessFlags := 0, code := none }
def k11c1 : Code := { maxStack := 2, maxLocals := 2, code := jdk_52_method_15_code, exceptionTable := #[], attributes := #[] }
def k11m1 : Method := { name := "coderFromArrayLen", desc := "([BI)B", sig := { parameters := [(.array .byte), .int], returnType := some .byte }, accessFlags := 8, code := some k11c1 }
def k11c2 : Code := { maxStack := 5, maxLocals := 6, code := jdk_52_method_16_code, exceptionTable := #[], attributes := #[] }
def k11m2 : Method := { name := "compress", desc := "([CII)[B", sig := { parameters := [(.array .char), .int, .int], returnType := some (.array .byte) }, accessFlags := 9, code := some k11c2 }
def k11c3 : Code := { maxStack := 3, maxLocals := 7, code := jdk_52_method_21_code, exceptionTable := #[], attributes := #[] }
def k11m3 : Method := { name := "compress", desc := "([CI[BII)I", sig := { parameters := [(.array .char), .int, (.array .byte), .int, .int], returnType := some .int }, accessFlags := 9, code := some k11c3 }
/-- java/lang/StringUTF16 -/
def k11 : Class := { plain "java/lang/StringUTF16" (some 0) with
  accessFlags := 48
  interfaces := #[]
  cf := some (fileOf pool11 12 #[.nestMembers #[627, 629, 369]] #[{ accessFlags := 0, nameIndex := 9, descriptorIndex := 10, attributes := #[] }, { accessFlags := 8, nameIndex := 261, descriptorIndex := 262, attributes := #[] }, { accessFlags := 9, nameIndex := 117, descriptorIndex := 122, attributes := #[] }, { accessFlags := 9, nameIndex := 117, descriptorIndex := 118, attributes := #[] }] 48 6 #[] #[{ accessFlags := 26, nameIndex := 61, descriptorIndex := 62, attributes := #[] }, { accessFlags := 26, nameIndex := 65, descriptorIndex := 62, attributes := #[] }, { accessFlags := 24, nameIndex := 430, descriptorIndex := 62, attributes := #[] }, { accessFlags := 4120, nameIndex := 46, descriptorIndex := 47, attributes := #[] }])
  fields := #[{ name := "HI_BYTE_SHIFT", type := .int, accessFlags := 26, slot := 0, constantValue := 0 }, { name := "LO_BYTE_SHIFT", type := .int, accessFlags := 26, slot := 1, constantValue := 0 }, { name := "MAX_LENGTH", type := .int, accessFlags := 24, slot := 2, constantValue := 0 }, { name := "$assertionsDisabled", type := .boolean, accessFlags := 4120, slot := 3, constantValue := 0 }]
  methods := #[k11m0, k11m1, k11m2, k11m3]
  instanceTypes := #[]
  staticTypes := #[.int, .int, .int, .boolean]
  resolved := Array.replicate 635 none
  statics := none }

def pool12 : Array CpInfo := pool [(2, .class_ 4), (1, u "java/lang/Object"), (0, u "<init>"), (0, u "()V"), (17, .class_ 26), (1, u "jdk/internal/util/Preconditions"), (28, .class_ 56), (0, u "jdk/internal/util/Preconditions$4"), (57, .class_ 115), (0, u "jdk/internal/util/Preconditions$1"), (7, u "SIOOBE_FORMATTER"), (0, u "Ljava/util/function/BiFunction;"), (0, .class_ 126), (0, u "jdk/internal/util/Preconditions$2"), (3, u "AIOOBE_FORMATTER"), (0, .class_ 132), (0, u "jdk/internal/util/Preconditions$3"), (3, u "IOOBE_FORMATTER")] 57

def k12m0 : Method := { name := "<init>", desc := "()V", sig := { parameters := [], returnType := none }, accessFlags := 1, code := none }
/-- jdk/internal/util/Preconditions -/
def k12 : Class := { plain "jdk/internal/util/Preconditions" (some 0) with
  accessFlags := 33
  interfaces := #[]
  cf := some (fileOf pool12 24 #[.nestMembers #[55, 131, 125, 114]] #[{ accessFlags := 1, nameIndex := 5, descriptorIndex := 6, attributes := #[] }] 33 2 #[] #[{ accessFlags := 25, nameIndex := 123, descriptorIndex := 124, attributes := #[] }, { accessFlags := 25, nameIndex := 130, descriptorIndex := 124, attributes := #[] }, { accessFlags := 25, nameIndex := 136, descriptorIndex := 124, attributes := #[] }])
  fields := #[{ name := "SIOOBE_FORMATTER", type := (.object "java/util/function/BiFunction"), accessFlags := 25, slot := 0, constantValue := 0 }, { name := "AIOOBE_FORMATTER", type := (.object "java/util/function/BiFunction"), accessFlags := 25, slot := 1, constantValue := 0 }, { name := "IOOBE_FORMATTER", type := (.object "java/util/function/BiFunction"), accessFlags := 25, slot := 2, constantValue := 0 }]
  methods := #[k12m0]
  instanceTypes := #[]
  staticTypes := #[(.object "java/util/function/BiFunction"), (.object "java/util/function/BiFunction"), (.object "java/util/function/BiFunction")]
  resolved := Array.replicate 194 none
  statics := some 1 }

def pool13 : Array CpInfo := pool [(9, u "<init>"), (6, .class_ 18), (1, u "java/lang/Object"), (0, u "()V"), (1, .class_ 23), (1, u "jdk/internal/util/ArraysSupport"), (0, u "LOG2_ARRAY_LONG_INDEX_SCALE"), (0, u "I"), (2, u "U"), (0, u "Ljdk/internal/misc/Unsafe;"), (8, u "BIG_ENDIAN"), (0, u "Z"), (8, u "LOG2_BYTE_BIT_SIZE"), (4, u "LOG2_ARRAY_INT_INDEX_SCALE"), (54, u "JLA"), (0, u "Ljdk/internal/access/JavaLangAccess;"), (11, u "LOG2_ARRAY_BOOLEAN_INDEX_SCALE"), (9, u "LOG2_ARRAY_BYTE_INDEX_SCALE"), (5, u "LOG2_ARRAY_CHAR_INDEX_SCALE"), (5, u "LOG2_ARRAY_SHORT_INDEX_SCALE"), (18, u "LOG2_ARRAY_FLOAT_INDEX_SCALE"), (24, u "LOG2_ARRAY_DOUBLE_INDEX_SCALE"), (89, u "T_BOOLEAN"), (2, u "T_CHAR"), (1, u "T_FLOAT"), (1, u "T_DOUBLE"), (1, u "T_BYTE"), (1, u "T_SHORT"), (1, u "T_INT"), (1, u "T_LONG"), (1, u "SOFT_MAX_ARRAY_LENGTH")] 83

def k13m0 : Method := { name := "<init>", desc := "()V", sig := { parameters := [], returnType := none }, accessFlags := 2, code := none }
/-- jdk/internal/util/ArraysSupport -/
def k13 : Class := { plain "jdk/internal/util/ArraysSupport" (some 0) with
  accessFlags := 33
  interfaces := #[]
  cf := some (fileOf pool13 21 #[] #[{ accessFlags := 2, nameIndex := 9, descriptorIndex := 19, attributes := #[] }] 33 16 #[] #[{ accessFlags := 24, nameIndex := 28, descriptorIndex := 29, attributes := #[] }, { accessFlags := 26, nameIndex := 38, descriptorIndex := 39, attributes := #[] }, { accessFlags := 25, nameIndex := 121, descriptorIndex := 25, attributes := #[] }, { accessFlags := 25, nameIndex := 131, descriptorIndex := 25, attributes := #[] }, { accessFlags := 25, nameIndex := 137, descriptorIndex := 25, attributes := #[] }, { accessFlags := 25, nameIndex := 143, descriptorIndex := 25, attributes := #[] }, { accessFlags := 25, nameIndex := 53, descriptorIndex := 25, attributes := #[] }, { accessFlags := 25, nameIndex := 24, descriptorIndex := 25, attributes := #[] }, { accessFlags := 25, nameIndex := 162, descriptorIndex := 25, attributes := #[] }, { accessFlags := 25, nameIndex := 187, descriptorIndex := 25, attributes := #[] }, { accessFlags := 26, nameIndex := 48, descriptorIndex := 25, attributes := #[] }, { accessFlags := 25, nameIndex := 277, descriptorIndex := 25, attributes := #[] }, { accessFlags := 25, nameIndex := 280, descriptorIndex := 25, attributes := #[] }, { accessFlags := 25, nameIndex := 282, descriptorIndex := 25, attributes := #[] }, { accessFlags := 25, nameIndex := 284, descriptorIndex := 25, attributes := #[] }, { accessFlags := 25, nameIndex := 286, descriptorIndex := 25, attributes := #[] }, { accessFlags := 25, nameIndex := 288, descriptorIndex := 25, attributes := #[] }, { accessFlags := 25, nameIndex := 290, descriptorIndex := 25, attributes := #[] }, { accessFlags := 25, nameIndex := 292, descriptorIndex := 25, attributes := #[] }, { accessFlags := 26, nameIndex := 108, descriptorIndex := 109, attributes := #[] }, { accessFlags := 25, nameIndex := 294, descriptorIndex := 25, attributes := #[] }])
  fields := #[{ name := "U", type := (.object "jdk/internal/misc/Unsafe"), accessFlags := 24, slot := 0, constantValue := 0 }, { name := "BIG_ENDIAN", type := .boolean, accessFlags := 26, slot := 1, constantValue := 0 }, { name := "LOG2_ARRAY_BOOLEAN_INDEX_SCALE", type := .int, accessFlags := 25, slot := 2, constantValue := 0 }, { name := "LOG2_ARRAY_BYTE_INDEX_SCALE", type := .int, accessFlags := 25, slot := 3, constantValue := 0 }, { name := "LOG2_ARRAY_CHAR_INDEX_SCALE", type := .int, accessFlags := 25, slot := 4, constantValue := 0 }, { name := "LOG2_ARRAY_SHORT_INDEX_SCALE", type := .int, accessFlags := 25, slot := 5, constantValue := 0 }, { name := "LOG2_ARRAY_INT_INDEX_SCALE", type := .int, accessFlags := 25, slot := 6, constantValue := 0 }, { name := "LOG2_ARRAY_LONG_INDEX_SCALE", type := .int, accessFlags := 25, slot := 7, constantValue := 0 }, { name := "LOG2_ARRAY_FLOAT_INDEX_SCALE", type := .int, accessFlags := 25, slot := 8, constantValue := 0 }, { name := "LOG2_ARRAY_DOUBLE_INDEX_SCALE", type := .int, accessFlags := 25, slot := 9, constantValue := 0 }, { name := "LOG2_BYTE_BIT_SIZE", type := .int, accessFlags := 26, slot := 10, constantValue := 0 }, { name := "T_BOOLEAN", type := .int, accessFlags := 25, slot := 11, constantValue := 0 }, { name := "T_CHAR", type := .int, accessFlags := 25, slot := 12, constantValue := 0 }, { name := "T_FLOAT", type := .int, accessFlags := 25, slot := 13, constantValue := 0 }, { name := "T_DOUBLE", type := .int, accessFlags := 25, slot := 14, constantValue := 0 }, { name := "T_BYTE", type := .int, accessFlags := 25, slot := 15, constantValue := 0 }, { name := "T_SHORT", type := .int, accessFlags := 25, slot := 16, constantValue := 0 }, { name := "T_INT", type := .int, accessFlags := 25, slot := 17, constantValue := 0 }, { name := "T_LONG", type := .int, accessFlags := 25, slot := 18, constantValue := 0 }, { name := "JLA", type := (.object "jdk/internal/access/JavaLangAccess"), accessFlags := 26, slot := 19, constantValue := 0 }, { name := "SOFT_MAX_ARRAY_LENGTH", type := .int, accessFlags := 25, slot := 20, constantValue := 0 }]
  methods := #[k13m0]
  instanceTypes := #[]
  staticTypes := #[(.object "jdk/internal/misc/Unsafe"), .boolean, .int, .int, .int, .int, .int, .int, .int, .int, .int, .int, .int, .int, .int, .int, .int, .int, .int, (.object "jdk/internal/access/JavaLangAccess"), .int]
  resolved := Array.replicate 378 none
  statics := none }

def pool14 : Array CpInfo := pool [(1, u "java/lang/Cloneable"), (0, .class_ 1), (0, u "java/lang/Object"), (0, .class_ 3)] 3

/-- java/lang/Cloneable -/
def k14 : Class := { plain "java/lang/Cloneable" (some 0) with
  accessFlags := 1537
  interfaces := #[]
  cf := some (fileOf pool14 2 #[] #[] 1537 4 #[] #[])
  fields := #[]
  methods := #[]
  instanceTypes := #[]
  staticTypes := #[]
  resolved := Array.replicate 8 none
  statics := none }

/-- the primitive byte -/
def k15 : Class := { plain "byte" none with kind := .primitive 'B', accessFlags := 0x411 }
/-- [B -/
def k16 : Class := { plain "[B" (some 0) with kind := .array 15 .byte, interfaces := #[14, 2], accessFlags := 1041 }

/-- the primitive char -/
def k17 : Class := { plain "char" none with kind := .primitive 'C', accessFlags := 0x411 }
/-- [C -/
def k18 : Class := { plain "[C" (some 0) with kind := .array 17 .char, interfaces := #[14, 2], accessFlags := 1041 }

/-- the primitive int -/
def k19 : Class := { plain "int" none with kind := .primitive 'I', accessFlags := 0x411 }
/-- [I -/
def k20 : Class := { plain "[I" (some 0) with kind := .array 19 .int, interfaces := #[14, 2], accessFlags := 1041 }

def heap : Heap := #[{ cls := 7, slots := #[.long 0, .int 1, .null, .int 0, .null, .int 0, .int 0], vm := .statics 7 },
  { cls := 12, slots := #[.null, .null, .null], vm := .statics 12 }]
def classes : Array Class := #[k0, k1, k2, k3, k4, k5, k6, k7, k8, k9, k10, k11, k12, k13, k14, k15, k16, k17, k18, k19, k20]
def interned : List (Array UInt16 × Addr) := []
def slotsUsed : Nat := 10
def theMethod : MethodId := ⟨1, 3⟩
def args0 : Array Value := #[.int 5, .int 5, .int 5, .int 5, .int 5]
def aboutOver (below : List Frame) : State where
  vm := { classes := classes, interned := interned.toArray }
  heap := heap
  slotsUsed := slotsUsed
  threads := #[{ frames := .invoking theMethod args0 :: below }]
def below0 : List Frame := [.native { method := ⟨0, 0⟩, args := #[] }]
def about1 : State := aboutOver below0
def p0 : Program := .bare "" "" ""
def e0 : Env := launch0.env 0 0 0
theorem w_frames : about1.frames = Frame.invoking theMethod args0 :: below0 := rfl
set_option maxRecDepth 65536 in
theorem w_args : argsFit about1.vm theMethod args0 = true := by decide +kernel
set_option maxRecDepth 65536 in
theorem w_heap : heapFits about1 = true := by decide +kernel
set_option maxRecDepth 65536 in
theorem w_runnable : about1.curStatus? = some .runnable := by decide +kernel
set_option maxRecDepth 65536 in
theorem w_alone : about1.alone = true := by decide +kernel
set_option maxRecDepth 65536 in
theorem w_named : about1.methodNamed? x = some theMethod := by decide +kernel
set_option maxRecDepth 65536 in
theorem w_hears : about1.hears theMethod below0 = true := by decide +kernel
set_option maxRecDepth 65536 in
theorem w_ripe : about1.ripe theMethod args0 below0 = true := by decide +kernel
theorem w_running : about1.status = .running := rfl
set_option maxRecDepth 65536 in
theorem w_room : about1.hasRoom e0.platform room_1 = true :=
  launch0.hasRoom_least _ room_1 (by decide +kernel) (by decide +kernel) (by decide +kernel) (by decide +kernel) (by decide +kernel) (by decide +kernel)
theorem allAtoms_all (ts : List Jvm.Cond) (a : Array Jvm.Value) (st : Jvm.State) : (allAtoms ts).before a st = ts.all (fun c => c.before a st) := by
  induction ts with
  | nil => rfl
  | cons c t ih =>
    show (Jvm.Cond.and c (allAtoms t)).before a st = _
    rw [Jvm.Cond.before_and, ih, List.all_cons]
def words1 : List Jvm.Cond := Jvm.Cond.code x code maxLocals ret :: tables_1
/-- a 'code' word, met by the world's own term for the bytes: nothing is compared byte by byte -/
theorem code_word {y : MethodName} {bytes : ByteArray} {mx : Nat} {rt : Option FieldType} {a : Array Value} {s : State} {m : MethodId} {meth : Method} {c : Code} (h1 : s.methodNamed? y = some m) (h2 : s.vm.method? m = some meth) (h3 : meth.code = some c) (h4 : c.code = bytes)
    (h5 : (c.maxLocals == mx && c.exceptionTable.isEmpty && decide (c.maxStack ≤ mostOperands) && decide (meth.sig.returnType = rt) && !meth.locks && decide (parseMethodDescriptor y.desc = some meth.sig)) = true) : (Jvm.Cond.code y bytes mx rt).before a s = true := by
  simp only [Bool.and_eq_true, beq_iff_eq, Bool.not_eq_true', decide_eq_true_eq] at h5
  obtain ⟨⟨⟨⟨⟨g1, g2⟩, g3⟩, g4⟩, g5⟩, g6⟩ := h5
  simp [Cond.before, Cond.holds, Cond.value, h1, h2, h3, h4, g1, g2, g3, g4, g5, g6]
def isCode : Jvm.Cond → Bool
  | .code _ _ _ _ => true
  | _ => false
theorem all_split {L : List Jvm.Cond} {P : Jvm.Cond → Bool} (h1 : L.all (fun c => isCode c || P c) = true) (h2 : ∀ c ∈ L.filter isCode, P c = true) : L.all P = true := by
  refine List.all_eq_true.mpr fun c hc => ?_
  have h := List.all_eq_true.mp h1 c hc
  rcases Bool.eq_false_or_eq_true (isCode c) with hi | hi
  · exact h2 c (List.mem_filter.mpr ⟨hc, hi⟩)
  · simpa [hi] using h
set_option maxRecDepth 65536 in
theorem w_c0 : (Jvm.Cond.code x code maxLocals ret).before args0 about1 = true := code_word (m := ⟨1, 3⟩) (meth := k1m3) (c := k1c3) (by decide +kernel) rfl rfl rfl (by decide +kernel)
set_option maxRecDepth 65536 in
theorem w_c1 : (Jvm.Cond.code ({ cls := "com/example/cranfield/cranfield/model/TopicEqualsPinLaw", name := "str", desc := "(ICC)Ljava/lang/String;" } : Jvm.MethodName) method_2_code (3 : Nat) (Option.some (Jvm.ClassFile.FieldType.object "java/lang/String"))).before args0 about1 = true := code_word (m := ⟨1, 1⟩) (meth := k1m1) (c := k1c1) (by decide +kernel) rfl rfl rfl (by decide +kernel)
set_option maxRecDepth 65536 in
theorem w_c2 : (Jvm.Cond.code ({ cls := "java/lang/String", name := "<init>", desc := "([C)V" } : Jvm.MethodName) jdk_42_method_3_code (2 : Nat) (Option.none : Option Jvm.ClassFile.FieldType)).before args0 about1 = true := code_word (m := ⟨7, 1⟩) (meth := k7m1) (c := k7c1) (by decide +kernel) rfl rfl rfl (by decide +kernel)
set_option maxRecDepth 65536 in
theorem w_c3 : (Jvm.Cond.code ({ cls := "java/lang/String", name := "<init>", desc := "([CIILjava/lang/Void;)V" } : Jvm.MethodName) jdk_42_method_149_code (6 : Nat) (Option.none : Option Jvm.ClassFile.FieldType)).before args0 about1 = true := code_word (m := ⟨7, 3⟩) (meth := k7m3) (c := k7c3) (by decide +kernel) rfl rfl rfl (by decide +kernel)
set_option maxRecDepth 65536 in
theorem w_c4 : (Jvm.Cond.code ({ cls := "java/lang/Object", name := "<init>", desc := "()V" } : Jvm.MethodName) object_method_1_code (1 : Nat) (Option.none : Option Jvm.ClassFile.FieldType)).before args0 about1 = true := code_word (m := ⟨0, 0⟩) (meth := k0m0) (c := k0c0) (by decide +kernel) rfl rfl rfl (by decide +kernel)
set_option maxRecDepth 65536 in
theorem w_c5 : (Jvm.Cond.code ({ cls := "com/example/cranfield/cranfield/model/Topic", name := "<init>", desc := "(Ljava/lang/String;Ljava/lang/String;)V" } : Jvm.MethodName) prog_62_method_1_code (3 : Nat) (Option.none : Option Jvm.ClassFile.FieldType)).before args0 about1 = true := code_word (m := ⟨8, 0⟩) (meth := k8m0) (c := k8c0) (by decide +kernel) rfl rfl rfl (by decide +kernel)
set_option maxRecDepth 65536 in
theorem w_c6 : (Jvm.Cond.code ({ cls := "java/util/Objects", name := "requireNonNull", desc := "(Ljava/lang/Object;Ljava/lang/String;)Ljava/lang/Object;" } : Jvm.MethodName) jdk_31_method_11_code (2 : Nat) (Option.some (Jvm.ClassFile.FieldType.object "java/lang/Object"))).before args0 about1 = true := code_word (m := ⟨9, 1⟩) (meth := k9m1) (c := k9c1) (by decide +kernel) rfl rfl rfl (by decide +kernel)
set_option maxRecDepth 65536 in
theorem w_c7 : (Jvm.Cond.code ({ cls := "com/example/cranfield/cranfield/model/Topic", name := "equals", desc := "(Ljava/lang/Object;)Z" } : Jvm.MethodName) prog_62_method_4_code (3 : Nat) (Option.some Jvm.ClassFile.FieldType.boolean)).before args0 about1 = true := code_word (m := ⟨8, 1⟩) (meth := k8m1) (c := k8c1) (by decide +kernel) rfl rfl rfl (by decide +kernel)
set_option maxRecDepth 65536 in
theorem w_c8 : (Jvm.Cond.code ({ cls := "java/lang/String", name := "equals", desc := "(Ljava/lang/Object;)Z" } : Jvm.MethodName) jdk_42_method_66_code (3 : Nat) (Option.some Jvm.ClassFile.FieldType.boolean)).before args0 about1 = true := code_word (m := ⟨7, 2⟩) (meth := k7m2) (c := k7c2) (by decide +kernel) rfl rfl rfl (by decide +kernel)
set_option maxRecDepth 65536 in
theorem w_c9 : (Jvm.Cond.code ({ cls := "com/example/cranfield/cranfield/model/TopicEqualsPinLaw", name := "same", desc := "(ICCICC)Z" } : Jvm.MethodName) method_3_code (6 : Nat) (Option.some Jvm.ClassFile.FieldType.boolean)).before args0 about1 = true := code_word (m := ⟨1, 2⟩) (meth := k1m2) (c := k1c2) (by decide +kernel) rfl rfl rfl (by decide +kernel)
set_option maxRecDepth 65536 in
theorem w_c10 : (Jvm.Cond.code ({ cls := "java/lang/StringLatin1", name := "equals", desc := "([B[B)Z" } : Jvm.MethodName) jdk_43_method_13_code (3 : Nat) (Option.some Jvm.ClassFile.FieldType.boolean)).before args0 about1 = true := code_word (m := ⟨10, 1⟩) (meth := k10m1) (c := k10c1) (by decide +kernel) rfl rfl rfl (by decide +kernel)
set_option maxRecDepth 65536 in
theorem w_c11 : (Jvm.Cond.code ({ cls := "java/lang/StringUTF16", name := "compress", desc := "([CII)[B" } : Jvm.MethodName) jdk_52_method_16_code (6 : Nat) (Option.some (Jvm.ClassFile.FieldType.array Jvm.ClassFile.FieldType.byte))).before args0 about1 = true := code_word (m := ⟨11, 2⟩) (meth := k11m2) (c := k11c2) (by decide +kernel) rfl rfl rfl (by decide +kernel)
set_option maxRecDepth 65536 in
theorem w_c12 : (Jvm.Cond.code ({ cls := "java/lang/StringUTF16", name := "compress", desc := "([CI[BII)I" } : Jvm.MethodName) jdk_52_method_21_code (7 : Nat) (Option.some Jvm.ClassFile.FieldType.int)).before args0 about1 = true := code_word (m := ⟨11, 3⟩) (meth := k11m3) (c := k11c3) (by decide +kernel) rfl rfl rfl (by decide +kernel)
set_option maxRecDepth 65536 in
theorem w_c13 : (Jvm.Cond.code ({ cls := "java/lang/StringUTF16", name := "coderFromArrayLen", desc := "([BI)B" } : Jvm.MethodName) jdk_52_method_15_code (2 : Nat) (Option.some Jvm.ClassFile.FieldType.byte)).before args0 about1 = true := code_word (m := ⟨11, 1⟩) (meth := k11m1) (c := k11c1) (by decide +kernel) rfl rfl rfl (by decide +kernel)
def codes1 : List Jvm.Cond := [Jvm.Cond.code x code maxLocals ret, Jvm.Cond.code ({ cls := "com/example/cranfield/cranfield/model/TopicEqualsPinLaw", name := "str", desc := "(ICC)Ljava/lang/String;" } : Jvm.MethodName) method_2_code (3 : Nat) (Option.some (Jvm.ClassFile.FieldType.object "java/lang/String")), Jvm.Cond.code ({ cls := "java/lang/String", name := "<init>", desc := "([C)V" } : Jvm.MethodName) jdk_42_method_3_code (2 : Nat) (Option.none : Option Jvm.ClassFile.FieldType), Jvm.Cond.code ({ cls := "java/lang/String", name := "<init>", desc := "([CIILjava/lang/Void;)V" } : Jvm.MethodName) jdk_42_method_149_code (6 : Nat) (Option.none : Option Jvm.ClassFile.FieldType), Jvm.Cond.code ({ cls := "java/lang/Object", name := "<init>", desc := "()V" } : Jvm.MethodName) object_method_1_code (1 : Nat) (Option.none : Option Jvm.ClassFile.FieldType), Jvm.Cond.code ({ cls := "com/example/cranfield/cranfield/model/Topic", name := "<init>", desc := "(Ljava/lang/String;Ljava/lang/String;)V" } : Jvm.MethodName) prog_62_method_1_code (3 : Nat) (Option.none : Option Jvm.ClassFile.FieldType), Jvm.Cond.code ({ cls := "java/util/Objects", name := "requireNonNull", desc := "(Ljava/lang/Object;Ljava/lang/String;)Ljava/lang/Object;" } : Jvm.MethodName) jdk_31_method_11_code (2 : Nat) (Option.some (Jvm.ClassFile.FieldType.object "java/lang/Object")), Jvm.Cond.code ({ cls := "com/example/cranfield/cranfield/model/Topic", name := "equals", desc := "(Ljava/lang/Object;)Z" } : Jvm.MethodName) prog_62_method_4_code (3 : Nat) (Option.some Jvm.ClassFile.FieldType.boolean), Jvm.Cond.code ({ cls := "java/lang/String", name := "equals", desc := "(Ljava/lang/Object;)Z" } : Jvm.MethodName) jdk_42_method_66_code (3 : Nat) (Option.some Jvm.ClassFile.FieldType.boolean), Jvm.Cond.code ({ cls := "com/example/cranfield/cranfield/model/TopicEqualsPinLaw", name := "same", desc := "(ICCICC)Z" } : Jvm.MethodName) method_3_code (6 : Nat) (Option.some Jvm.ClassFile.FieldType.boolean), Jvm.Cond.code ({ cls := "java/lang/StringLatin1", name := "equals", desc := "([B[B)Z" } : Jvm.MethodName) jdk_43_method_13_code (3 : Nat) (Option.some Jvm.ClassFile.FieldType.boolean), Jvm.Cond.code ({ cls := "java/lang/StringUTF16", name := "compress", desc := "([CII)[B" } : Jvm.MethodName) jdk_52_method_16_code (6 : Nat) (Option.some (Jvm.ClassFile.FieldType.array Jvm.ClassFile.FieldType.byte)), Jvm.Cond.code ({ cls := "java/lang/StringUTF16", name := "compress", desc := "([CI[BII)I" } : Jvm.MethodName) jdk_52_method_21_code (7 : Nat) (Option.some Jvm.ClassFile.FieldType.int), Jvm.Cond.code ({ cls := "java/lang/StringUTF16", name := "coderFromArrayLen", desc := "([BI)B" } : Jvm.MethodName) jdk_52_method_15_code (2 : Nat) (Option.some Jvm.ClassFile.FieldType.byte)]
set_option maxRecDepth 65536 in
theorem codes_eq : words1.filter isCode = codes1 := rfl
theorem w_codes : ∀ c ∈ words1.filter isCode, c.before args0 about1 = true := by
  rw [codes_eq]
  intro c hc
  simp only [codes1, List.mem_cons, List.not_mem_nil, or_false] at hc
  rcases hc with rfl | rfl | rfl | rfl | rfl | rfl | rfl | rfl | rfl | rfl | rfl | rfl | rfl | rfl
  · exact w_c0
  · exact w_c1
  · exact w_c2
  · exact w_c3
  · exact w_c4
  · exact w_c5
  · exact w_c6
  · exact w_c7
  · exact w_c8
  · exact w_c9
  · exact w_c10
  · exact w_c11
  · exact w_c12
  · exact w_c13
set_option maxRecDepth 65536 in
theorem w_t1 : (words1.take 24).all (fun c => isCode c || c.before args0 about1) = true := by decide +kernel
set_option maxRecDepth 65536 in
theorem w_t2 : ((words1.drop 24).take 24).all (fun c => isCode c || c.before args0 about1) = true := by decide +kernel
set_option maxRecDepth 65536 in
theorem w_t3 : (((words1.drop 24).drop 24).take 24).all (fun c => isCode c || c.before args0 about1) = true := by decide +kernel
set_option maxRecDepth 65536 in
theorem w_t4 : (((words1.drop 24).drop 24).drop 24).all (fun c => isCode c || c.before args0 about1) = true := by decide +kernel
theorem w_tables : (allAtoms (Jvm.Cond.code x code maxLocals ret :: tables_1)).before args0 about1 = true := by
  rw [allAtoms_all]
  show words1.all (fun c => c.before args0 about1) = true
  refine all_split ?_ w_codes
  rw [← List.take_append_drop 24 words1, List.all_append, w_t1, ← List.take_append_drop 24 (words1.drop 24), List.all_append, w_t2, ← List.take_append_drop 24 ((words1.drop 24).drop 24), List.all_append, w_t3, w_t4]
  rfl
set_option maxRecDepth 65536 in
theorem w_rest : rest_1_c.before args0 about1 = true := by decide +kernel
set_option maxRecDepth 65536 in
theorem w_case : (Jvm.Cond.and given_1 narrow_1).before args0 about1 = true := by decide +kernel
set_option maxRecDepth 65536 in
theorem w_consts : constsHeld consts_1 about1 := Jvm.Lit.constsHeldB_iff.mp (by decide +kernel)
theorem w_applies : (headSpec (Jvm.Cond.code x code maxLocals ret :: tables_1) room_1).applies x e0.platform about1 = true :=
  (Spec.applies_iff w_frames).mpr ⟨w_running, w_runnable, w_alone, w_named, w_hears, w_ripe, w_room, w_tables⟩
theorem atStart : AtStart classFile x code maxLocals ret World_1 tables_1 room_1 Calls_1 rest_1 Pre_1 launch0 p0 e0 about1 theMethod args0 below0 :=
  ⟨lists_1, trivial, launch0.admits_env _ _ _, launch0.least_env, fairChoices_fair.cas, fairChoices_fair.clock, w_frames, w_args, w_heap, w_applies, ⟨w_consts, trivial⟩, w_rest, w_case⟩
end start1
theorem witness_1 : WitnessClaimed_1 := ⟨start1.p0, start1.e0, start1.about1, start1.theMethod, start1.args0, start1.below0, start1.atStart⟩
end Jvm.Pilot.@@N@@
